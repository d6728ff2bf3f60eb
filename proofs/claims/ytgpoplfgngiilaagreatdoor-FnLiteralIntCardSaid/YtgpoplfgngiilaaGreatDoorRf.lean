/- The reference's Whole, and the printed Small at 1. The reference's IsNumber. The reference's Integer. The reference's IsInt. -/
import Derived.Test.YtgpoplfgngiilaaGreatDoorSA
import Derived.Test.YtgpoplfgngiilaaGreatDoorB0
import Derived.Test.YtgpoplfgngiilaaGreatDoorSB
import Derived.Test.YtgpoplfgngiilaaGreatDoorSC
set_option linter.unusedVariables false
set_option linter.unusedSimpArgs false
namespace Go.Proofs.YtgpoplfgngiilaaGreatDoor
open Go.RowKit Go.Proofs.YtgpoplfgngiilaaGreatDoorW.PrintWords PAll

theorem small_one : spec_Small.f 2 1 = some [1] := by
  simp only [spec_Small.f, spec_Small.l0]
  rw [if_pos (by omega), if_pos (by simp)]
  have e : wrap64 (Int.tdiv 1 65536) = 0 := by rw [show Int.tdiv 1 65536 = 0 from rfl]; unfold wrap64; omega
  rw [e]
  rw [if_neg (by omega)]
  rfl

theorem V_of_R {kd : IntKind} {w : World} {e base b : Nat} {ok S : Nat → Prop} {v : Value} {xs : List Int} (h : Kd.R (Kd.int kd) e w base ok v xs) (hS : ∀ k, base ≤ k → S k) : Kd.V (Kd.int kd) e w b S v xs :=
  Kd.R_V (Kd.R_mono (Kd.R_bound h) (fun k hk => hS k hk.2.1))

set_option maxHeartbeats 1000000 in
/-- Whole: the sign only of what is not 0; the digits; over 1. -/
theorem whole_any (neg : Bool) (A : Option Addr) (n c : Nat) (w : World) :
    Calls Tryz.prog 20 #[.bool neg, .slice A n c] w fun e w' => ∃ A1 c1, e = .returned (.agg #[.bool (neg && decide (0 < n)), .slice A n c, .slice A1 1 c1]) ∧ Kd.V (Kd.int .i64) 3 w' 0 (fun k => w.heap.size < k) (.slice A1 1 c1) [1] ∧ Below w.heap.size w w' := by
  obtain ⟨W0, hW0⟩ : ∃ W0, W0 = w.alloc (.cells #[.bool false, .slice none 0 0, .slice none 0 0] 31) := ⟨_, rfl⟩
  have hn0 : W0.heap[w.heap.size]? = some (.cells #[.bool false, .slice none 0 0, .slice none 0 0] 31 (0, 0)) := by rw [hW0]; exact heap_alloc_new _ _
  have HN0 := Aside0.mk hn0
  have HB0 : Aside0 (Below w.heap.size w W0) := Aside0.mk (by rw [hW0]; exact below_alloc (Below.refl _ _) _)
  have HS0 : Aside0 (w.heap.size + 1 ≤ W0.heap.size) := Aside0.mk (by rw [hW0]; simp)
  have HW0 := Lib.hid hW0
  clear hW0 hn0
  cases neg
  all_goals
    go_enter Tryz.func20, Tryz.ntmps20
    go_wp2_with fail
    rw [← HW0.out]
    refine (spec_Small.calls 2 1 [1] _ small_one).mono ?_
    rintro e w1 ⟨v, rfl, hO, hb⟩
    obtain ⟨A1, c1, rfl⟩ := Kd.R_slice hO
    have hbk := blk_below HN0.out hb
    have hc0 : w1.cell? ⟨w.heap.size, 0, none⟩ = some (.bool false) := blk_cell hbk 0
    have hc1 : w1.cell? ⟨w.heap.size, 1, none⟩ = some (.slice none 0 0) := blk_cell hbk 1
    have hc2 : w1.cell? ⟨w.heap.size, 2, none⟩ = some (.slice none 0 0) := blk_cell hbk 2
    have hf0 : w1.frozen? ⟨w.heap.size, 0, none⟩ = false := blk_frozen hbk 0
    have hf1 : w1.frozen? ⟨w.heap.size, 1, none⟩ = false := blk_frozen hbk 1
    have hf2 : w1.frozen? ⟨w.heap.size, 2, none⟩ = false := blk_frozen hbk 2
    have HBK := Aside0.mk hbk
    have HO := Aside0.mk hO
    have HB := Aside0.mk hb
    clear hbk hO hb
    go_wp2_with fail
  · refine bodyPost_ret (results_cell_row rfl _ _ w.heap.size 31 #[.bool false, .slice A n c, .slice A1 1 c1] (0, 0) _ rfl (blk_put (cs := #[.bool false, .slice A n c, .slice none 0 0]) (blk_put (cs := #[.bool false, .slice none 0 0, .slice none 0 0]) (blk_put (cs := #[.bool false, .slice none 0 0, .slice none 0 0]) HBK.out 0 _ rfl) 1 _ rfl) 2 _ rfl) Tryz.underlying31 rfl (by kernel_rfl)) rfl ?_
    refine ⟨A1, c1, by simp, ?_, ?_⟩
    · repeat refine Kd.V_far ?_ (fun k (hk : w.heap.size < k) => by simp; omega) _
      exact V_of_R HO.out (fun k hk => by have := HS0.out; omega)
    · repeat refine Below.setCell ?_ (by simp) _
      exact below_step HB0.out HB.out
  · refine bodyPost_ret (results_cell_row rfl _ _ w.heap.size 31 #[.bool (decide (0 < n)), .slice A n c, .slice A1 1 c1] (0, 0) _ rfl (blk_put (cs := #[.bool (decide (0 < n)), .slice A n c, .slice none 0 0]) (blk_put (cs := #[.bool (decide (0 < n)), .slice none 0 0, .slice none 0 0]) (blk_put (cs := #[.bool false, .slice none 0 0, .slice none 0 0]) HBK.out 0 _ rfl) 1 _ rfl) 2 _ rfl) Tryz.underlying31 rfl (by kernel_rfl)) rfl ?_
    refine ⟨A1, c1, by simp, ?_, ?_⟩
    · repeat refine Kd.V_far ?_ (fun k (hk : w.heap.size < k) => by simp; omega) _
      exact V_of_R HO.out (fun k hk => by have := HS0.out; omega)
    · repeat refine Below.setCell ?_ (by simp) _
      exact below_step HB0.out HB.out
end Go.Proofs.YtgpoplfgngiilaaGreatDoor

namespace Go.Proofs.YtgpoplfgngiilaaGreatDoor
open Go.RowKit Go.Proofs.YtgpoplfgngiilaaGreatDoorW.PrintWords PAll

set_option maxHeartbeats 2000000 in
theorem isNumber_any (xn neg : Bool) (A : Option Addr) (c : Nat) (xs : List Int) (A2 : Option Addr) (c2 : Nat) (ds : List Int) (k : Nat) (b : Bool) (w : World)
    (hA : Kd.C (Kd.int .u64) w A xs.length xs) (hc : xs.length ≤ c) (hA2 : Kd.C (Kd.int .i64) w A2 ds.length ds) (hc2 : ds.length ≤ c2) (h : spec_HasWords.f k xs ds = some b) :
    Calls Tryz.prog 35 #[.agg #[.bool xn, .slice A xs.length c], .bool neg, .slice A2 ds.length c2] w fun e w' => e = .returned (.bool ((xn == (neg && decide (0 < ds.length))) && b)) ∧ Below w.heap.size w w' := by
  have hb0 := below_alloc (Below.refl w.heap.size w) (.cells #[.bool xn, .slice A xs.length c] 24)
  have H := Aside0.mk (spec_HasWords.calls k A c xs A2 c2 ds b (w.alloc (.cells #[.bool xn, .slice A xs.length c] 24)) (Kd.C_below hA hb0) hc (Kd.C_below hA2 hb0) hc2 h)
  have HB0 := Aside0.mk hb0
  clear hA hA2 h hb0
  by_cases hp : 0 < ds.length
  · have hp1 : decide ((0:Int) < ds.length) = true := by simpa using hp
    cases xn <;> cases neg
    all_goals
      go_enter Tryz.func35, Tryz.ntmps35
      go_wp2_with fail
      try
        (refine H.out.mono ?_
         rintro e w' ⟨rfl, hb⟩
         have HB := Aside0.mk hb
         clear hb
         go_wp2_with fail)
      go_ret
      first
        | exact ⟨by simp [hp], HB0.out⟩
        | exact ⟨by simp [hp], below_step HB0.out HB.out⟩
  · have hp1 : decide ((0:Int) < ds.length) = false := by simpa using hp
    cases xn <;> cases neg
    all_goals
      go_enter Tryz.func35, Tryz.ntmps35
      go_wp2_with fail
      try
        (refine H.out.mono ?_
         rintro e w' ⟨rfl, hb⟩
         have HB := Aside0.mk hb
         clear hb
         go_wp2_with fail)
      go_ret
      first
        | exact ⟨by simp [hp], HB0.out⟩
        | exact ⟨by simp [hp], below_step HB0.out HB.out⟩
end Go.Proofs.YtgpoplfgngiilaaGreatDoor

namespace Go.Proofs.YtgpoplfgngiilaaGreatDoor
open Go.RowKit Go.Proofs.YtgpoplfgngiilaaGreatDoorW.PrintWords PAll

/-- What stays while Integer runs: the box of its argument, the block of its result, its words. -/
structure InI (w : World) (box : Array Value) (A : Option Addr) (xs : List Int) (W : World) : Prop where
  below : Below w.heap.size w W
  size : w.heap.size + 2 ≤ W.heap.size
  box : W.heap[w.heap.size]? = some (.cells box 26 (0, 0))
  res : W.heap[w.heap.size + 1]? = some (.cells #[.bool false, .slice none 0 0, .slice none 0 0] 31 (0, 0))
  words : Kd.C (Kd.int .u64) W A xs.length xs

theorem C_block {w : World} {kd : IntKind} {A : Option Addr} {n : Nat} {xs : List Int} (h : Kd.C (Kd.int kd) w A n xs) (hn : 0 < n) : ∀ ad, A = some ad → ad.block < w.heap.size := by
  intro ad ha
  obtain ⟨ad', hA', hc⟩ := h.2.2 hn
  rw [ha] at hA'
  cases hA'
  have hl := h.1
  cases xs with
  | nil => simp at hl; omega
  | cons p xs =>
    obtain ⟨c, hcl, hk, hcell⟩ := hc 0 p rfl
    cases c with
    | nil => cases hcl
    | cons u c =>
      have := World.block_lt_of_cell? _ _ (hcell 0 u rfl)
      rwa [block_add] at this
theorem C_move0 {w w1 : World} {kd : IntKind} {A : Option Addr} {n : Nat} {xs : List Int} (h : Kd.C (Kd.int kd) w A n xs) (hm : 0 < n → ∀ ad : Addr, A = some ad → ∀ k, w1.cell? (ad.add k) = w.cell? (ad.add k)) : Kd.C (Kd.int kd) w1 A n xs := by
  rcases Nat.eq_zero_or_pos n with h0 | h0
  · exact ⟨h.1, h.2.1, fun hn => by omega⟩
  · exact C_move h (hm h0)
theorem C_far0 {w : World} {kd : IntKind} {A : Option Addr} {n : Nat} {xs : List Int} (h : Kd.C (Kd.int kd) w A n xs) {p : Addr} (hne : 0 < n → ∀ ad : Addr, A = some ad → ad.block ≠ p.block) (u : Value) : Kd.C (Kd.int kd) (w.setCell p u) A n xs :=
  C_move0 h fun hn ad hA k => World.cell?_of_block (Below.heap_setCell w p u _ (by rw [block_add]; exact hne hn ad hA))
theorem C_keep0 {w w1 : World} {kd : IntKind} {A : Option Addr} {n : Nat} {xs : List Int} (h : Kd.C (Kd.int kd) w A n xs) (hm : 0 < n → ∀ ad : Addr, A = some ad → w1.heap[ad.block]? = w.heap[ad.block]?) : Kd.C (Kd.int kd) w1 A n xs :=
  C_move0 h fun hn ad hA k => World.cell?_of_block (by rw [block_add]; exact hm hn ad hA)
section
variable {w W W1 : World} {box : Array Value} {A : Option Addr} {xs : List Int}
theorem InI.next (h : InI w box A xs W) (hb : Below W.heap.size W W1) : InI w box A xs W1 :=
  ⟨below_step h.below hb, Nat.le_trans h.size hb.size, blk_below h.box hb, blk_below h.res hb, Kd.C_below h.words hb⟩
theorem InI.alloc (h : InI w box A xs W) (o : Obj) : InI w box A xs (W.alloc o) := h.next (below_alloc (Below.refl _ _) o)
theorem InI.drewN (h : InI w box A xs W) (n : Nat) : InI w box A xs (W.drewN n) := h.next (pw_below_drewN (Below.refl _ _) n)
theorem InI.drew (h : InI w box A xs W) : InI w box A xs W.drew := h.next (below_drew (Below.refl _ _))
theorem InI.set_ (h : InI w box A xs W) {p : Addr} (hp : w.heap.size + 2 ≤ p.block) (hA : 0 < xs.length → ∀ ad, A = some ad → ad.block < w.heap.size) (u : Value) : InI w box A xs (W.setCell p u) :=
  ⟨h.below.setCell (by omega) u, by simpa [World.setCell] using h.size, blk_far h.box (by omega) u, blk_far h.res (by omega) u, C_far0 h.words (fun hn ad ha => by have := hA hn ad ha; omega) u⟩
theorem InI.realloc {O O' : Obj} (h : InI w box A xs (W.alloc O)) (hz : w.heap.size + 2 ≤ W.heap.size) (hA : 0 < xs.length → ∀ ad, A = some ad → ad.block < w.heap.size) : InI w box A xs (W.alloc O') := by
  have e : ∀ i, i < w.heap.size + 2 → (W.alloc O').heap[i]? = (W.alloc O).heap[i]? := fun i hi =>
    (Below.heap_alloc W O' i (by omega)).trans (Below.heap_alloc W O i (by omega)).symm
  refine ⟨⟨h.below.os, h.below.tape, h.below.output, by simpa using h.below.size, fun i hi => (e i (by omega)).trans (h.below.block i hi)⟩, by simpa using h.size, (e _ (by omega)).trans h.box, (e _ (by omega)).trans h.res, C_keep0 h.words (fun hn ad ha => e _ (by have := hA hn ad ha; omega))⟩
theorem InI.cells {k0 b1 s2 n v v5 b6 v7 v8 : Value} (h : InI w #[k0, b1, s2, n, v, v5, b6, v7, v8] A xs W) : W.cell? ⟨w.heap.size, 3, none⟩ = some n ∧ W.cell? ⟨w.heap.size, 4, none⟩ = some v ∧ InI w #[k0, b1, s2, n, v, v5, b6, v7, v8] A xs W :=
  ⟨blk_cell h.box 3, blk_cell h.box 4, h⟩
end

/-- Behind the first statement: the Ratio that Integer has made. -/
def InR (w : World) (box : Array Value) (A : Option Addr) (xs : List Int) (d : Bool) (ds : List Int) (v4 : Value) (W : World) : Prop :=
  ∃ g A1 c1 A5 c5, v4 = .pointer (some ⟨g, 0, none⟩) ∧ w.heap.size + 2 ≤ g ∧ W.heap[g]? = some (.cells #[.bool d, .slice A1 ds.length c1, .slice A5 1 c5] 31 (0, 0)) ∧
    Kd.V (Kd.int .i64) 3 W 0 (fun k => w.heap.size + 2 ≤ k) (.slice A1 ds.length c1) ds ∧ Kd.V (Kd.int .i64) 3 W 0 (fun k => w.heap.size + 2 ≤ k) (.slice A5 1 c5) [1] ∧ InI w box A xs W

/-- What stays through the second statement, also when the result is stored. -/
structure InI2 (w : World) (box : Array Value) (A : Option Addr) (xs : List Int) (d : Bool) (ds : List Int) (g : Nat) (A1 : Option Addr) (c1 : Nat) (A5 : Option Addr) (c5 : Nat) (W : World) : Prop where
  below : Below w.heap.size w W
  size : w.heap.size + 2 ≤ W.heap.size
  box : W.heap[w.heap.size]? = some (.cells box 26 (0, 0))
  words : Kd.C (Kd.int .u64) W A xs.length xs
  rat : W.heap[g]? = some (.cells #[.bool d, .slice A1 ds.length c1, .slice A5 1 c5] 31 (0, 0))
  num : Kd.V (Kd.int .i64) 3 W 0 (fun k => w.heap.size + 2 ≤ k) (.slice A1 ds.length c1) ds
  one : Kd.V (Kd.int .i64) 3 W 0 (fun k => w.heap.size + 2 ≤ k) (.slice A5 1 c5) [1]
section
variable {w W W1 : World} {box : Array Value} {A A1 A5 : Option Addr} {xs ds : List Int} {d : Bool} {g c1 c5 : Nat}
theorem InI2.next (h : InI2 w box A xs d ds g A1 c1 A5 c5 W) (hb : Below W.heap.size W W1) : InI2 w box A xs d ds g A1 c1 A5 c5 W1 :=
  ⟨below_step h.below hb, Nat.le_trans h.size hb.size, blk_below h.box hb, Kd.C_below h.words hb, blk_below h.rat hb, Kd.V_below h.num hb, Kd.V_below h.one hb⟩
theorem InI2.drew (h : InI2 w box A xs d ds g A1 c1 A5 c5 W) : InI2 w box A xs d ds g A1 c1 A5 c5 W.drew := h.next (below_drew (Below.refl _ _))
theorem InI2.digits (h : InI2 w box A xs d ds g A1 c1 A5 c5 W) : Kd.C (Kd.int .i64) W A1 ds.length ds := (Kd.V_reads' h.num).2.2
theorem InI2.len (h : InI2 w box A xs d ds g A1 c1 A5 c5 W) : ds.length ≤ c1 := (Kd.V_reads' h.num).2.1
theorem InI2.set_ (h : InI2 w box A xs d ds g A1 c1 A5 c5 W) (hA : 0 < xs.length → ∀ ad, A = some ad → ad.block < w.heap.size) (hg : w.heap.size + 2 ≤ g) (i : Nat) (u : Value) : InI2 w box A xs d ds g A1 c1 A5 c5 (W.setCell ⟨w.heap.size + 1, i, none⟩ u) :=
  ⟨h.below.setCell (by simp) u, by simpa [World.setCell] using h.size, blk_far h.box (by simp) u, C_far0 h.words (fun hn ad ha => by have := hA hn ad ha; simp; omega) u, blk_far h.rat (by simp; omega) u, Kd.V_far h.num (fun k hk => by simp; omega) u, Kd.V_far h.one (fun k hk => by simp; omega) u⟩
theorem InI2.cells {k0 b1 s2 n v v5 b6 v7 v8 : Value} (h : InI2 w #[k0, b1, s2, n, v, v5, b6, v7, v8] A xs d ds g A1 c1 A5 c5 W) :
    W.cell? ⟨w.heap.size, 0, none⟩ = some k0 ∧ W.cell? ⟨w.heap.size, 1, none⟩ = some b1 ∧ W.cell? ⟨w.heap.size, 2, none⟩ = some s2 ∧ W.cell? ⟨w.heap.size, 3, none⟩ = some n ∧ W.cell? ⟨w.heap.size, 4, none⟩ = some v ∧ W.cell? ⟨w.heap.size, 5, none⟩ = some v5 ∧ W.cell? ⟨w.heap.size, 6, none⟩ = some b6 ∧ W.cell? ⟨w.heap.size, 7, none⟩ = some v7 ∧ W.cell? ⟨w.heap.size, 8, none⟩ = some v8 ∧
      W.cell? ⟨g, 0, none⟩ = some (.bool d) ∧ W.cell? ⟨g, 1, none⟩ = some (.slice A1 ds.length c1) ∧ W.cell? ⟨g, 2, none⟩ = some (.slice A5 1 c5) ∧ InI2 w #[k0, b1, s2, n, v, v5, b6, v7, v8] A xs d ds g A1 c1 A5 c5 W :=
  ⟨blk_cell h.box 0, blk_cell h.box 1, blk_cell h.box 2, blk_cell h.box 3, blk_cell h.box 4, blk_cell h.box 5, blk_cell h.box 6, blk_cell h.box 7, blk_cell h.box 8, blk_cell h.rat 0, blk_cell h.rat 1, blk_cell h.rat 2, h⟩
end

set_option maxHeartbeats 4000000 in
set_option maxRecDepth 100000 in
theorem integer_any (tr : Bool) (tx : ByteArray) (neg : Bool) (A : Option Addr) (c : Nat) (xs : List Int) (A2 : Option Addr) (c2 : Nat) (ineg : Bool) (A3 : Option Addr) (c3 : Nat) (xs3 : List Int) (A4 : Option Addr) (c4 : Nat) (xs4 : List Int)
    (k : Nat) (ds : List Int) (b r : Bool) (w : World) (hA : Kd.C (Kd.int .u64) w A xs.length xs) (hc : xs.length ≤ c)
    (hA3 : Kd.C (Kd.int .u64) w A3 xs3.length xs3) (hc3 : xs3.length ≤ c3) (hA4 : Kd.C (Kd.int .u64) w A4 xs4.length xs4) (hc4 : xs4.length ≤ c4)
    (hO : spec_Of.f k xs = some ds) (hH : spec_HasWords.f k xs ds = some b) (hR : spec_rest.f 3 tr tx neg xs [] ineg xs3 xs4 = some r)
    (hq : ((neg == ((neg && decide (0 < ds.length)) && decide (0 < ds.length))) && b) = true) :
    Calls Tryz.prog 23 #[.agg #[.int .i64 3, .bool tr, .string tx, .bool neg, .slice A xs.length c, .slice A2 0 c2, .bool ineg, .slice A3 xs3.length c3, .slice A4 xs4.length c4]] w fun e w' => ∃ A1 c1 A5 c5, e = .returned (.tuple #[.agg #[.bool (neg && decide (0 < ds.length)), .slice A1 ds.length c1, .slice A5 1 c5], .bool r]) ∧
      Kd.V (Kd.int .i64) 3 w' 0 (fun k => w.heap.size + 2 ≤ k) (.slice A1 ds.length c1) ds ∧ Kd.V (Kd.int .i64) 3 w' 0 (fun k => w.heap.size + 2 ≤ k) (.slice A5 1 c5) [1] ∧ Below w.heap.size w w' := by
  go_enter Tryz.func23, Tryz.ntmps23
  go_wp2_with fail
  obtain ⟨W0, hW0⟩ : ∃ W0, W0 = (w.alloc (.cells #[.int .i64 3, .bool tr, .string tx, .bool neg, .slice A xs.length c, .slice A2 0 c2, .bool ineg, .slice A3 xs3.length c3, .slice A4 xs4.length c4] 26)).alloc (.cells #[.bool false, .slice none 0 0, .slice none 0 0] 31) := ⟨_, rfl⟩
  rw [← hW0]
  have hI : InI w #[.int .i64 3, .bool tr, .string tx, .bool neg, .slice A xs.length c, .slice A2 0 c2, .bool ineg, .slice A3 xs3.length c3, .slice A4 xs4.length c4] A xs W0 := by
    have hb : Below w.heap.size w W0 := by rw [hW0]; exact below_alloc (below_alloc (Below.refl _ _) _) _
    refine ⟨hb, by rw [hW0]; simp, by rw [hW0]; exact blk_alloc (heap_alloc_new _ _) _, ?_, Kd.C_below hA hb⟩
    rw [hW0]
    simpa using heap_alloc_new (w.alloc (.cells #[.int .i64 3, .bool tr, .string tx, .bool neg, .slice A xs.length c, .slice A2 0 c2, .bool ineg, .slice A3 xs3.length c3, .slice A4 xs4.length c4] 26)) (.cells #[.bool false, .slice none 0 0, .slice none 0 0] 31)
  have HC := Aside0.mk hc
  have HO := Aside0.mk hO
  have HA := Aside0.mk (C_block hA)
  have HH := Aside0.mk hH
  have HR := Aside0.mk hR
  have HA3 := Aside0.mk hA3
  have HA4 := Aside0.mk hA4
  have HL3 := Aside0.mk hc3
  have HL4 := Aside0.mk hc4
  have HQ := Lib.hid hq
  clear hq
  clear hH hR hA3 hA4 hc3 hc4
  have hc3 : W0.cell? ⟨w.heap.size, 3, none⟩ = some (.bool neg) := blk_cell hI.box 3
  have hc4 : W0.cell? ⟨w.heap.size, 4, none⟩ = some (.slice A xs.length c) := blk_cell hI.box 4
  have hz0 := hI.size
  clear hW0 hA hc hO
  go_upto_region 3 with (fail)
  go_cut [4] (fun v4 W => InR w #[.int .i64 3, .bool tr, .string tx, .bool neg, .slice A xs.length c, .slice A2 0 c2, .bool ineg, .slice A3 xs3.length c3, .slice A4 xs4.length c4] A xs (neg && decide (0 < ds.length)) ds v4 W)
  case first =>
    go_region_held3 (fun w' => w'.cell? ⟨w.heap.size, 3, none⟩ = some (.bool neg) ∧ w'.cell? ⟨w.heap.size, 4, none⟩ = some (.slice A xs.length c) ∧ InI w #[.int .i64 3, .bool tr, .string tx, .bool neg, .slice A xs.length c, .slice A2 0 c2, .bool ineg, .slice A3 xs3.length c3, .slice A4 xs4.length c4] A xs w')
      (first
        | (go_split_ands; exact InI.cells (InI.next (by assumption) hb2))
        | (go_split_ands; exact InI.cells (InI.next (by assumption) hb1))
        | (go_split_ands; exact InI.cells (InI.alloc (by assumption) _))
        | (go_split_ands; exact InI.cells (InI.realloc (by assumption) hz2 HA.out))
        | (go_split_ands; exact InI.cells (InI.drew (by assumption)))
        | (go_split_ands; exact InI.cells (InI.set_ (p := ⟨_, 2, none⟩) (InI.set_ (p := ⟨_, 1, none⟩) (InI.set_ (p := ⟨_, 0, none⟩) (by assumption) (by simp; omega) HA.out _) (by simp; omega) HA.out _) (by simp; omega) HA.out _)))
      (first
        | (go_at_call 15; refine (spec_Of.calls k A c xs ds _ (by go_split_ands; exact InI.words (by assumption)) HC.out HO.out).mono ?_; rintro e w1 ⟨v, rfl, hV1, hb1⟩; obtain ⟨A1, c1, rfl⟩ := Kd.V_slice hV1; have HV1 := Aside0.mk hV1; have hz1 : w.heap.size + 2 ≤ w1.heap.size := (by go_split_ands; exact Nat.le_trans (InI.size (by assumption)) hb1.size); first | (have hnb : w1.heap[W0.heap.size]? = some (.cells #[.bool false, .slice none 0 0, .slice none 0 0] 31 (0, 0)) := blk_below (heap_alloc_new W0.drew _) hb1; have HNB := Aside0.mk hnb; have q0 : w1.cell? ⟨W0.heap.size, 0, none⟩ = some (.bool false) := blk_cell HNB.out 0; have qf0 : w1.frozen? ⟨W0.heap.size, 0, none⟩ = false := blk_frozen HNB.out 0; have q1 : w1.cell? ⟨W0.heap.size, 1, none⟩ = some (.slice none 0 0) := blk_cell HNB.out 1; have qf1 : w1.frozen? ⟨W0.heap.size, 1, none⟩ = false := blk_frozen HNB.out 1; have q2 : w1.cell? ⟨W0.heap.size, 2, none⟩ = some (.slice none 0 0) := blk_cell HNB.out 2; have qf2 : w1.frozen? ⟨W0.heap.size, 2, none⟩ = false := blk_frozen HNB.out 2; clear hnb hV1) | clear hV1)
        | (go_at_call 20; refine (whole_any _ _ _ _ _).mono ?_; rintro e w2 ⟨A5, c5, rfl, hV2, hb2⟩; have HV2 := Aside0.mk hV2; have hz2 : w.heap.size + 2 ≤ w2.heap.size := (by go_split_ands; exact Nat.le_trans (InI.size (by assumption)) hb2.size); first | (have hnb : w2.heap[W0.heap.size]? = some (.cells #[.bool false, .slice none 0 0, .slice none 0 0] 31 (0, 0)) := blk_below HNB.out hb2; have HNB2 := Aside0.mk hnb; have r0 : w2.cell? ⟨W0.heap.size, 0, none⟩ = some (.bool false) := blk_cell HNB2.out 0; have rf0 : w2.frozen? ⟨W0.heap.size, 0, none⟩ = false := blk_frozen HNB2.out 0; have r1 : w2.cell? ⟨W0.heap.size, 1, none⟩ = some (.slice none 0 0) := blk_cell HNB2.out 1; have rf1 : w2.frozen? ⟨W0.heap.size, 1, none⟩ = false := blk_frozen HNB2.out 1; have r2 : w2.cell? ⟨W0.heap.size, 2, none⟩ = some (.slice none 0 0) := blk_cell HNB2.out 2; have rf2 : w2.frozen? ⟨W0.heap.size, 2, none⟩ = false := blk_frozen HNB2.out 2; clear hnb hV2) | (have hnb : w2.heap[w1.heap.size]? = some (.cells #[.bool false, .slice none 0 0, .slice none 0 0] 31 (0, 0)) := blk_below (heap_alloc_new w1 _) hb2; have HNB2 := Aside0.mk hnb; have r0 : w2.cell? ⟨w1.heap.size, 0, none⟩ = some (.bool false) := blk_cell HNB2.out 0; have rf0 : w2.frozen? ⟨w1.heap.size, 0, none⟩ = false := blk_frozen HNB2.out 0; have r1 : w2.cell? ⟨w1.heap.size, 1, none⟩ = some (.slice none 0 0) := blk_cell HNB2.out 1; have rf1 : w2.frozen? ⟨w1.heap.size, 1, none⟩ = false := blk_frozen HNB2.out 1; have r2 : w2.cell? ⟨w1.heap.size, 2, none⟩ = some (.slice none 0 0) := blk_cell HNB2.out 2; have rf2 : w2.frozen? ⟨w1.heap.size, 2, none⟩ = false := blk_frozen HNB2.out 2; clear hnb hV2) | clear hV2))
    all_goals (go_wp2_with fail; go_meet)
    · refine ⟨w2.heap.size, A1, c1, A5, c5, rfl, hz2, heap_alloc_new _ _, ?_, ?_, by go_split_ands; assumption⟩
      · exact Kd.V_alloc (Kd.V_below (Kd.V_mono HV1.out (fun k hk => Nat.le_trans hz0 hk)) hb2) _
      · exact Kd.V_alloc (Kd.V_mono HV2.out (fun k hk => by omega)) _
    · refine ⟨w1.heap.size, A1, c1, A5, c5, rfl, hz1, blk_put (cs := #[.bool (neg && decide (0 < ds.length)), .slice A1 ds.length c1, .slice none 0 0]) (blk_put (cs := #[.bool (neg && decide (0 < ds.length)), .slice none 0 0, .slice none 0 0]) (blk_put (cs := #[.bool false, .slice none 0 0, .slice none 0 0]) HNB2.out 0 _ rfl) 1 _ rfl) 2 _ rfl, ?_, ?_, by go_split_ands; assumption⟩
      · refine Kd.V_mono (ok := fun k => w.heap.size + 2 ≤ k ∧ k < w1.heap.size) ?_ (fun k hk => hk.1)
        repeat refine Kd.V_far ?_ (fun k hk => by simp; omega) _
        exact Kd.V_below (Kd.V_alloc (Kd.V_mono (Kd.V_bound HV1.out) (fun k hk => ⟨Nat.le_trans hz0 hk.1, hk.2⟩)) _) hb2
      · refine Kd.V_mono (ok := fun k => w1.heap.size < k) ?_ (fun k hk => by omega)
        repeat refine Kd.V_far ?_ (fun k hk => by simp; omega) _
        exact Kd.V_mono HV2.out (fun k hk => by simp at hk; omega)
    · refine ⟨W0.heap.size, A1, c1, A5, c5, rfl, hz0, blk_put (cs := #[.bool (neg && decide (0 < ds.length)), .slice A1 ds.length c1, .slice none 0 0]) (blk_put (cs := #[.bool (neg && decide (0 < ds.length)), .slice none 0 0, .slice none 0 0]) (blk_put (cs := #[.bool false, .slice none 0 0, .slice none 0 0]) HNB2.out 0 _ rfl) 1 _ rfl) 2 _ rfl, ?_, ?_, by go_split_ands; assumption⟩
      · refine Kd.V_mono (ok := fun k => W0.heap.size < k) ?_ (fun k hk => by omega)
        repeat refine Kd.V_far ?_ (fun k hk => by simp; omega) _
        exact Kd.V_below (Kd.V_mono HV1.out (fun k hk => by simp at hk; omega)) hb2
      · have hzz := hb1.size
        refine Kd.V_mono (ok := fun k => W0.heap.size < k) ?_ (fun k hk => by omega)
        repeat refine Kd.V_far ?_ (fun k hk => by simp; omega) _
        exact Kd.V_mono HV2.out (fun k hk => by simp at hk hzz; omega)
  case rest =>
    obtain ⟨g, A1, c1, A5, c5, rfl, hg, hbg, hVd, hV1, hI2⟩ := hcut
    have hJ0 : InI2 w #[.int .i64 3, .bool tr, .string tx, .bool neg, .slice A xs.length c, .slice A2 0 c2, .bool ineg, .slice A3 xs3.length c3, .slice A4 xs4.length c4] A xs (neg && decide (0 < ds.length)) ds g A1 c1 A5 c5 wc := ⟨hI2.below, hI2.size, hI2.box, hI2.words, hbg, hVd, hV1⟩
    have HRS := Aside0.mk hI2.res
    have hg2 := hg
    clear hg hbg hVd hV1 hI2
    go_wp2_with fail
    go_region_held3 (fun w' => w'.cell? ⟨w.heap.size, 0, none⟩ = some (.int .i64 3) ∧ w'.cell? ⟨w.heap.size, 1, none⟩ = some (.bool tr) ∧ w'.cell? ⟨w.heap.size, 2, none⟩ = some (.string tx) ∧ w'.cell? ⟨w.heap.size, 3, none⟩ = some (.bool neg) ∧ w'.cell? ⟨w.heap.size, 4, none⟩ = some (.slice A xs.length c) ∧ w'.cell? ⟨w.heap.size, 5, none⟩ = some (.slice A2 0 c2) ∧ w'.cell? ⟨w.heap.size, 6, none⟩ = some (.bool ineg) ∧ w'.cell? ⟨w.heap.size, 7, none⟩ = some (.slice A3 xs3.length c3) ∧ w'.cell? ⟨w.heap.size, 8, none⟩ = some (.slice A4 xs4.length c4) ∧ w'.cell? ⟨g, 0, none⟩ = some (.bool (neg && decide (0 < ds.length))) ∧ w'.cell? ⟨g, 1, none⟩ = some (.slice A1 ds.length c1) ∧ w'.cell? ⟨g, 2, none⟩ = some (.slice A5 1 c5) ∧ InI2 w #[.int .i64 3, .bool tr, .string tx, .bool neg, .slice A xs.length c, .slice A2 0 c2, .bool ineg, .slice A3 xs3.length c3, .slice A4 xs4.length c4] A xs (neg && decide (0 < ds.length)) ds g A1 c1 A5 c5 w')
      (first
        | (go_split_ands; exact InI2.cells (InI2.next (by assumption) hb6))
        | (go_split_ands; exact InI2.cells (InI2.next (by assumption) hb5))
        | (go_split_ands; exact InI2.cells (InI2.drew (by assumption)))
        | (go_split_ands; exact InI2.cells (InI2.set_ (InI2.set_ (InI2.set_ (by assumption) HA.out hg2 _ _) HA.out hg2 _ _) HA.out hg2 _ _)))
      (first
        | (go_at_call 35; refine (isNumber_any neg (neg && decide (0 < ds.length)) A c xs A1 c1 ds k b _ ?_ HC.out ?_ ?_ HH.out).mono ?_; (go_split_ands; exact (InI2.words (by assumption))); (go_split_ands; exact (InI2.digits (by assumption))); (go_split_ands; exact (InI2.len (by assumption))); rw [HQ.out]; rintro e w5 ⟨rfl, hb5⟩; have HRS5 := Aside0.mk (blk_below (blk_drew HRS.out) hb5))
        | (go_at_call 36; refine (spec_rest.calls 3 tr tx neg A c xs A2 c2 [] ineg A3 c3 xs3 A4 c4 xs4 r _ ?_ HC.out (C_nil _ _ _) (Nat.zero_le _) ?_ HL3.out ?_ HL4.out HR.out).mono ?_; (go_split_ands; exact (InI2.words (by assumption))); (go_split_ands; exact Kd.C_below HA3.out (InI2.below (by assumption))); (go_split_ands; exact Kd.C_below HA4.out (InI2.below (by assumption))); rintro e w6 ⟨rfl, hb6⟩; have HRS6 := Aside0.mk (blk_below HRS5.out hb6); have s0 : w6.cell? ⟨w.heap.size + 1, 0, none⟩ = some (.bool false) := blk_cell HRS6.out 0; have sf0 : w6.frozen? ⟨w.heap.size + 1, 0, none⟩ = false := blk_frozen HRS6.out 0; have s1 : w6.cell? ⟨w.heap.size + 1, 1, none⟩ = some (.slice none 0 0) := blk_cell HRS6.out 1; have sf1 : w6.frozen? ⟨w.heap.size + 1, 1, none⟩ = false := blk_frozen HRS6.out 1; have s2 : w6.cell? ⟨w.heap.size + 1, 2, none⟩ = some (.slice none 0 0) := blk_cell HRS6.out 2; have sf2 : w6.frozen? ⟨w.heap.size + 1, 2, none⟩ = false := blk_frozen HRS6.out 2))
    go_wp2
    refine bodyPost_ret (results_ct rfl _ _ (w.heap.size + 1) 31 #[.bool (neg && decide (0 < ds.length)), .slice A1 ds.length c1, .slice A5 1 c5] (0, 0) _ rfl (blk_put (cs := #[.bool (neg && decide (0 < ds.length)), .slice A1 ds.length c1, .slice none 0 0]) (blk_put (cs := #[.bool (neg && decide (0 < ds.length)), .slice none 0 0, .slice none 0 0]) (blk_put (cs := #[.bool false, .slice none 0 0, .slice none 0 0]) HRS6.out 0 _ rfl) 1 _ rfl) 2 _ rfl) Tryz.underlying31 rfl (by kernel_rfl)) rfl ?_
    go_split_ands
    refine ⟨A1, c1, A5, c5, rfl, InI2.num (by assumption), InI2.one (by assumption), InI2.below (by assumption)⟩
end Go.Proofs.YtgpoplfgngiilaaGreatDoor

namespace Go.Proofs.YtgpoplfgngiilaaGreatDoor
open Go.RowKit Go.Proofs.YtgpoplfgngiilaaGreatDoorW.PrintWords PAll

set_option maxHeartbeats 4000000 in
set_option maxRecDepth 100000 in
/-- IsInt of a Value of Kind Int, well told, with a number: what 'same' says of the two. -/
theorem isInt_any (A : Option Addr) (c : Nat) (xs : List Int) (vn : Bool) (B1 : Option Addr) (d1 : Nat) (vs : List Int) (B2 : Option Addr) (d2 : Nat) (us : List Int)
    (k k2 : Nat) (ds : List Int) (s : Bool) (w : World) (hA : Kd.C (Kd.int .u64) w A xs.length xs) (hc : xs.length ≤ c)
    (hB1 : Kd.C (Kd.int .i64) w B1 vs.length vs) (hd1 : vs.length ≤ d1) (hB2 : Kd.C (Kd.int .i64) w B2 us.length us) (hd2 : us.length ≤ d2)
    (hO : spec_Of.f k xs = some ds) (hH : spec_HasWords.f k xs ds = some true) (hS : spec_same.f k2 false ds [1] vn vs us = some s) :
    Calls Tryz.prog 10 #[.agg #[.int .i64 3, .bool false, .string ⟨#[]⟩, .bool false, .slice A xs.length c, .slice none 0 0, .bool false, .slice none 0 0, .slice none 0 0], .agg #[.bool vn, .slice B1 vs.length d1, .slice B2 us.length d2]] w fun e w' => e = .returned (.bool s) ∧ Below w.heap.size w w' := by
  obtain ⟨W0, hW0⟩ : ∃ W0, W0 = (w.alloc (.cells #[.int .i64 3, .bool false, .string ⟨#[]⟩, .bool false, .slice A xs.length c, .slice none 0 0, .bool false, .slice none 0 0, .slice none 0 0] 26)).alloc (.cells #[.bool vn, .slice B1 vs.length d1, .slice B2 us.length d2] 31) := ⟨_, rfl⟩
  have hB0 : Below w.heap.size w W0 := by rw [hW0]; exact below_alloc (below_alloc (Below.refl _ _) _) _
  have hn1 : W0.heap[w.heap.size + 1]? = some (.cells #[.bool vn, .slice B1 vs.length d1, .slice B2 us.length d2] 31 (0, 0)) := by rw [hW0]; simpa using heap_alloc_new (w.alloc (.cells #[.int .i64 3, .bool false, .string ⟨#[]⟩, .bool false, .slice A xs.length c, .slice none 0 0, .bool false, .slice none 0 0, .slice none 0 0] 26)) (.cells #[.bool vn, .slice B1 vs.length d1, .slice B2 us.length d2] 31)
  have HW0 := Lib.hid hW0
  clear hW0
  have hI := integer_any false ⟨#[]⟩ false A c xs none 0 false none 0 [] none 0 [] k ds true true W0 (Kd.C_below hA hB0) hc (C_nil _ _ _) (Nat.le_refl _) (C_nil _ _ _) (Nat.le_refl _) hO hH (by simp [spec_rest.f]) (by simp)
  have HI := Aside0.mk hI
  have HB0 := Aside0.mk hB0
  have HN1 := Aside0.mk hn1
  have HB1 := Aside0.mk (Kd.C_below hB1 hB0)
  have HB2 := Aside0.mk (Kd.C_below hB2 hB0)
  have HD1 := Aside0.mk hd1
  have HD2 := Aside0.mk hd2
  have HS := Aside0.mk hS
  clear hA hc hB1 hd1 hB2 hd2 hO hH hS hB0 hn1 hI
  go_enter Tryz.func10, Tryz.ntmps10
  go_wp2_with fail
  rw [← HW0.out]
  refine HI.out.mono ?_
  rintro e w1 ⟨A1, c1, A5, c5, rfl, hV1, hV5, hb⟩
  have HV1 := Aside0.mk (Kd.V_reads' hV1).2
  have HV5 := Aside0.mk (Kd.V_reads' hV5).2
  have HB := Aside0.mk hb
  have hq := blk_alloc (blk_below HN1.out hb) (.cells #[.bool false, .slice A1 ds.length c1, .slice A5 1 c5] 31)
  have q0 : (w1.alloc (.cells #[.bool false, .slice A1 ds.length c1, .slice A5 1 c5] 31)).cell? ⟨w.heap.size + 1, 0, none⟩ = some (.bool vn) := blk_cell hq 0
  have q1 : (w1.alloc (.cells #[.bool false, .slice A1 ds.length c1, .slice A5 1 c5] 31)).cell? ⟨w.heap.size + 1, 1, none⟩ = some (.slice B1 vs.length d1) := blk_cell hq 1
  have q2 : (w1.alloc (.cells #[.bool false, .slice A1 ds.length c1, .slice A5 1 c5] 31)).cell? ⟨w.heap.size + 1, 2, none⟩ = some (.slice B2 us.length d2) := blk_cell hq 2
  have hb2 : Below w1.heap.size w1 (w1.alloc (.cells #[.bool false, .slice A1 ds.length c1, .slice A5 1 c5] 31)) := below_alloc (Below.refl _ _) _
  have HB2' := Aside0.mk hb2
  clear hV1 hV5 hb hq hb2
  go_wp2_with fail
  refine (spec_same.calls k2 false A1 c1 ds A5 c5 [1] vn B1 d1 vs B2 d2 us s _ (Kd.C_below HV1.out.2 HB2'.out) HV1.out.1 (Kd.C_below HV5.out.2 HB2'.out) HV5.out.1 (Kd.C_below (Kd.C_below HB1.out HB.out) HB2'.out) HD1.out (Kd.C_below (Kd.C_below HB2.out HB.out) HB2'.out) HD2.out HS.out).mono ?_
  rintro e w2 ⟨rfl, hb3⟩
  have HB3 := Aside0.mk (below_step (below_step (below_step HB0.out HB.out) HB2'.out) hb3)
  clear hb3
  go_wp2_with fail
  go_ret
  exact ⟨rfl, HB3.out⟩
end Go.Proofs.YtgpoplfgngiilaaGreatDoor
