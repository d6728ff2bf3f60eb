/- The words of an Int, as plain data: Bits, plain, number of package impl. An Int of a small number: setWord, setUint64, SetInt64 at an Int that holds nothing yet. Type switches at the dynamic types that occur: closed facts. What package impl tells of an integer of 64 bits not below 0. told of package impl at an integer of 64 bits not below 0. -/
import Derived.Test.YtgpoplfgngiilaaGreatDoorSI
import Derived.Test.YtgpoplfgngiilaaGreatDoorB0
set_option linter.unusedVariables false
set_option linter.unusedSimpArgs false
namespace Go.Proofs.YtgpoplfgngiilaaGreatDoor
open Go.RowKit Go.Proofs.YtgpoplfgngiilaaGreatDoorW.PrintWords PAll

set_option maxHeartbeats 400000 in
theorem bits_any (g : Nat) (v : Value) (w : World) (h1 : w.cell? ⟨g, 1, none⟩ = some v) :
    Calls Tryz.prog 92 #[.pointer (some ⟨g, 0, none⟩)] w fun e w' => e = .returned v ∧ w = w' := by
  go_enter Tryz.func92, Tryz.ntmps92
  go_wp2
  go_ret
  exact ⟨rfl, rfl⟩

set_option maxHeartbeats 1000000 in
set_option maxRecDepth 100000 in
theorem plain_any (g : Nat) (A : Option Addr) (c : Nat) (xs : List Int) (w : World) (h1 : w.cell? ⟨g, 1, none⟩ = some (.slice A xs.length c)) (hr : Kd.C (Kd.int .u64) w A xs.length xs) (hl : xs.length < 17592186044416) :
    Calls Tryz.prog 61 #[.pointer (some ⟨g, 0, none⟩)] w fun e w' => ∃ v : Value, e = .returned v ∧ Kd.R (Kd.int .u64) 50 w' w.heap.size (fun _ => True) v xs ∧ Below w.heap.size w w' := by
  have HR := Aside0.mk hr
  clear hr
  go_enter Tryz.func61, Tryz.ntmps61
  go_wp2_with fail
  refine (bits_any g _ w h1).mono ?_
  rintro e w' ⟨rfl, rfl⟩
  go_wp2_with fail
  go_loopw [3, 9] (fun v i W => ∃ k : Nat, k ≤ xs.length ∧ i = .int .i64 k ∧ Kd.R (Kd.int .u64) 50 W w.heap.size (fun _ => True) v (xs.take k) ∧ Below w.heap.size w W) (fun _ i _ => xs.length - (intOf i).toNat)
  case atStart => exact ⟨0, by omega, rfl, Kd.R_nil _ _ _ _ _, Below.refl _ _⟩
  case round =>
    obtain ⟨k, hk, rfl, HO, HB⟩ := hrel
    have HO := Aside0.mk HO
    have HB := Aside0.mk HB
    by_cases hlt : k < xs.length
    · have hlt' : (k : Int) < xs.length := by omega
      obtain ⟨ad, rfl, hcell⟩ := C_at (Kd.C_below HR.out HB.out) k hlt
      have HT : Hid (xs.take (k + 1) = xs.take k ++ [xs.getD k 0]) := take_snoc xs k hlt
      obtain ⟨x, hx⟩ : ∃ x, xs.getD k 0 = x := ⟨_, rfl⟩
      rw [hx] at hcell HT
      clear hx
      have hll : (xs.take k).length ≤ k := List.length_take_le _ _
      go_wp2_with ((with_reducible refine gate_builtin (b := .append) (xs := #[.tmp 13, .tmp 15]) rfl ?_); at_builtin; refine Kd.R_append (Kd.int .u64) (w0 := w) w.heap.size rfl (.tmp 13) (.tmp 15) 22 50 (.int .u64 0) 8 rfl Tryz.underlying22 info50 rfl (by decide) (by omega) u3 (xs.take k) x [.int .u64 x] (fun _ => True) (fun _ => False) rfl rfl ?aP (fun _ hk => hk.elim) ?aF ?aO ?aB ?aS ?aL ?_; (case aP => exact rfl); (case aB => exact HB.out); (case aF => exact (fun _ _ => trivial)); (case aO => exact HO.out); (case aS => exact below_size HB.out); (case aL => omega); intro v6 w6 ho hb hg hat; have HO6 := Aside0.mk ho; have HB6 := Aside0.mk hb; clear ho hb hg hat)
      go_roundw
      case rel => exact ⟨k + 1, by omega, by go_num, by rw [HT.out]; exact HO6.out, HB6.out⟩
      case measure => simp [intOf]; omega
    · obtain rfl : k = xs.length := by omega
      go_wp2_with fail
      go_ret
      rw [List.take_length] at HO
      exact ⟨_, rfl, HO.out, HB.out⟩

def sgn (neg : Bool) (n : Nat) : Int := if n = 0 then 0 else if neg then -1 else 1

set_option maxHeartbeats 400000 in
theorem sign_any (g : Nat) (neg : Bool) (A : Option Addr) (n c : Nat) (w : World) (h0 : w.cell? ⟨g, 0, none⟩ = some (.bool neg)) (h1 : w.cell? ⟨g, 1, none⟩ = some (.slice A n c)) :
    Calls Tryz.prog 90 #[.pointer (some ⟨g, 0, none⟩)] w fun e w' => e = .returned (.int .i64 (sgn neg n)) ∧ w = w' := by
  by_cases hn : n = 0
  · subst hn
    go_enter Tryz.func90, Tryz.ntmps90
    go_wp2
    go_ret
    exact ⟨by simp [sgn], rfl⟩
  · have hz : ((n : Int) == 0) = false := by simpa using hn
    cases neg with
    | true =>
      go_enter Tryz.func90, Tryz.ntmps90
      go_wp2
      go_ret
      exact ⟨by simp [sgn, hn], rfl⟩
    | false =>
      go_enter Tryz.func90, Tryz.ntmps90
      go_wp2
      go_ret
      exact ⟨by simp [sgn, hn], rfl⟩

set_option maxHeartbeats 1000000 in
theorem number_any (g : Nat) (neg : Bool) (A : Option Addr) (c : Nat) (xs : List Int) (w : World) (h0 : w.cell? ⟨g, 0, none⟩ = some (.bool neg)) (h1 : w.cell? ⟨g, 1, none⟩ = some (.slice A xs.length c)) (hr : Kd.C (Kd.int .u64) w A xs.length xs) (hl : xs.length < 17592186044416) :
    Calls Tryz.prog 58 #[.pointer (some ⟨g, 0, none⟩)] w fun e w' => ∃ v : Value, e = .returned (.agg #[.bool (decide (sgn neg xs.length < 0)), v]) ∧ Kd.R (Kd.int .u64) 50 w' w.heap.size (fun _ => True) v xs ∧ Below w.heap.size w w' := by
  have hg : g < w.heap.size := World.block_lt_of_cell? w _ h0
  have HR := Aside0.mk hr
  clear hr
  have HB := Aside0.mk (below_alloc (Below.refl w.heap.size w) (.cells #[.bool false, .slice none 0 0] 24))
  go_enter Tryz.func58, Tryz.ntmps58
  go_wp2_with fail
  have k0 : (w.alloc (.cells #[.bool false, .slice none 0 0] 24)).cell? ⟨g, 0, none⟩ = some (.bool neg) := (HB.out.cell (by exact hg)).trans h0
  have k1 : (w.alloc (.cells #[.bool false, .slice none 0 0] 24)).cell? ⟨g, 1, none⟩ = some (.slice A xs.length c) := (HB.out.cell (by exact hg)).trans h1
  refine (sign_any g neg A xs.length c _ k0 k1).mono ?_
  rintro e w' ⟨rfl, rfl⟩
  go_wp2_with fail
  refine (plain_any g A c xs _ k1 (Kd.C_below HR.out (HB.out)) hl).mono ?_
  rintro e w1 ⟨v, rfl, hO, hb⟩
  obtain ⟨Ao, co, rfl⟩ := Kd.R_slice hO
  have HO := Aside0.mk hO
  have HB1 := Aside0.mk hb
  clear hO hb
  have hbk : w1.heap[w.heap.size]? = some (.cells #[.bool false, .slice none 0 0] 24 (0, 0)) := (HB1.out.block w.heap.size (by simp)).trans (heap_alloc_new w _)
  have hc0 : w1.cell? ⟨w.heap.size, 0, none⟩ = some (.bool false) := blk_cell hbk 0
  have hc1 : w1.cell? ⟨w.heap.size, 1, none⟩ = some (.slice none 0 0) := blk_cell hbk 1
  have hf0 : w1.frozen? ⟨w.heap.size, 0, none⟩ = false := blk_frozen hbk 0
  have hf1 : w1.frozen? ⟨w.heap.size, 1, none⟩ = false := blk_frozen hbk 1
  have HBK := Aside0.mk hbk
  clear hbk
  go_wp2_with fail
  refine bodyPost_ret (results_cell_row rfl _ _ w.heap.size 24 #[.bool (decide (sgn neg xs.length < 0)), .slice Ao xs.length co] (0, 0) _ rfl (blk_put (cs := #[.bool (decide (sgn neg xs.length < 0)), .slice none 0 0]) (blk_put (cs := #[.bool false, .slice none 0 0]) HBK.out 0 _ rfl) 1 _ rfl) Tryz.underlying24 rfl (by kernel_rfl)) rfl ?_
  refine ⟨_, rfl, ?_, ?_⟩
  · exact Kd.R_mono (Kd.R_far (p := ⟨w.heap.size, 1, none⟩) (Kd.R_far (p := ⟨w.heap.size, 0, none⟩) (Kd.R_types (Kd.R_lower HO.out (by simp)) HBK.out (by decide)) (fun _ hk => hk.2) _) (fun _ hk => hk.2) _) (fun _ _ => trivial)
  · exact ((HB.out.trans (HB1.out.mono (by simp))).setCell (by simp) _).setCell (by simp) _
end Go.Proofs.YtgpoplfgngiilaaGreatDoor

namespace Go.Proofs.YtgpoplfgngiilaaGreatDoor
open Go.RowKit Go.Proofs.YtgpoplfgngiilaaGreatDoorW.PrintWords PAll

/-- The words of a number of one word. -/
def wordsOf1 (x : Int) : List Int := if x = 0 then [] else [x]

set_option maxHeartbeats 400000 in
/-- nat.make of one word, of nothing. -/
theorem make_first (w : World) :
    Calls Tryz.prog 130 #[.slice none 0 0, .int .i64 1] w fun e w' => e = .returned (.slice (some ⟨w.heap.size, 0, none⟩) 1 1) ∧ w.alloc (.cells #[.int .u64 0] 167) = w' := by
  have hmk : ∀ w, (Instr.makeSlice 114 (.int .i64 1) (.int .i64 1)).run Tryz.prog w = .ok (.slice (some ⟨w.heap.size, 0, none⟩) 1 1) (w.alloc (.cells #[.int .u64 0] 167)) := fun _ => by kernel_rfl
  go_enter Tryz.func130, Tryz.ntmps130
  go_wp2
  go_ret
  exact ⟨rfl, rfl⟩

set_option maxHeartbeats 400000 in
theorem setWord_first (x : Int) (w : World) :
    Calls Tryz.prog 117 #[.slice none 0 0, .int .u64 x] w fun e w' => ∃ v : Value, e = .returned v ∧ Wd (fun k => w.heap.size ≤ k) w' v (wordsOf1 x) ∧ Below w.heap.size w w' := by
  by_cases hx : x = 0
  · have hx1 : (x == 0) = true := by simpa using hx
    have e : wordsOf1 x = [] := by simp [wordsOf1, hx]
    rw [e]
    clear e hx
    go_enter Tryz.func117, Tryz.ntmps117
    go_wp2
    go_ret
    exact ⟨_, rfl, Wd_nil _ _, Below.refl _ _⟩
  · have hx1 : (x == 0) = false := by simpa using hx
    have e : wordsOf1 x = [x] := by simp [wordsOf1, hx]
    rw [e]
    clear e hx
    go_enter Tryz.func117, Tryz.ntmps117
    go_wp2_with fail
    refine (make_first _).mono ?_
    rintro e w' ⟨rfl, rfl⟩
    go_wp2
    go_ret
    exact ⟨_, rfl, ⟨_, 1, rfl, by simp, C_one (by simp [go_sem]), fun ad ha => by cases ha; exact Nat.le_refl _⟩, by go_grown⟩

set_option maxHeartbeats 400000 in
theorem setUint64_nil (x : Int) (w : World) (h0 : 0 ≤ x) (h1 : x < 18446744073709551616) :
    Calls Tryz.prog 91 #[.slice none 0 0, .int .u64 x] w fun e w' => ∃ v : Value, e = .returned v ∧ Wd (fun k => w.heap.size ≤ k) w' v (wordsOf1 x) ∧ Below w.heap.size w w' := by
  go_enter Tryz.func91, Tryz.ntmps91
  go_wp2_with fail
  refine (setWord_first x _).mono ?_
  rintro e w' ⟨v, rfl, hw, hb⟩
  have HW := Aside0.mk hw
  have HB := Aside0.mk hb
  clear hw hb
  go_wp2_with fail
  go_ret
  exact ⟨_, rfl, HW.out, HB.out⟩

set_option maxHeartbeats 1000000 in
/-- SetInt64 of a number not below 0 into an Int that holds nothing. -/
theorem setInt64_nil (g : Nat) (x : Int) (w : World) (h0 : 0 ≤ x) (h1 : x < 9223372036854775808) (hbk : w.heap[g]? = some (.cells #[.bool false, .slice none 0 0] 116 (0, 0))) :
    Calls Tryz.prog 59 #[.pointer (some ⟨g, 0, none⟩), .int .i64 x] w fun e w' => e = .returned (.pointer (some ⟨g, 0, none⟩)) ∧ ∃ v, w'.heap[g]? = some (.cells #[.bool false, v] 116 (0, 0)) ∧ Wd (fun k => w.heap.size ≤ k) w' v (wordsOf1 x) ∧ w.grownBy w' (some g) := by
  have hx : decide (x < 0) = false := by simp; omega
  have hc0 : w.cell? ⟨g, 0, none⟩ = some (.bool false) := blk_cell hbk 0
  have hc1 : w.cell? ⟨g, 1, none⟩ = some (.slice none 0 0) := blk_cell hbk 1
  have HBK := Aside0.mk hbk
  clear hbk
  go_enter Tryz.func59, Tryz.ntmps59
  go_wp2_with fail
  refine (setUint64_nil x _ h0 (by omega)).mono ?_
  rintro e w1 ⟨v, rfl, hw, hb⟩
  have HW := Aside0.mk hw
  obtain ⟨A, c, rfl, _⟩ := hw
  have HB := Aside0.mk hb
  clear hb hc0 hc1
  have hbk1 := blk_below HBK.out HB.out
  have hc0 : w1.cell? ⟨g, 0, none⟩ = some (.bool false) := blk_cell hbk1 0
  have hc1 : w1.cell? ⟨g, 1, none⟩ = some (.slice none 0 0) := blk_cell hbk1 1
  have hf0 : w1.frozen? ⟨g, 0, none⟩ = false := blk_frozen hbk1 0
  have hf1 : w1.frozen? ⟨g, 1, none⟩ = false := blk_frozen hbk1 1
  have HBK1 := Aside0.mk hbk1
  clear hbk1
  go_wp2_with fail
  go_ret
  have hlt := blk_lt HBK.out
  refine ⟨rfl, .slice A (wordsOf1 x).length c, ?_, ?_, ?_⟩
  · exact blk_put (cs := #[.bool false, .slice A (wordsOf1 x).length c]) (blk_put (cs := #[.bool false, .slice none 0 0]) HBK1.out 1 _ rfl) 0 _ rfl
  · exact Wd_far (Wd_far HW.out (by simp; omega) _) (by simp; omega) _
  · exact only_setCell (p := ⟨g, 0, none⟩) (only_setCell (p := ⟨g, 1, none⟩) (grown_of_below HB.out (some g)) (.inl rfl) _) (.inl rfl) _
end Go.Proofs.YtgpoplfgngiilaaGreatDoor

namespace Go.Proofs.YtgpoplfgngiilaaGreatDoor
theorem ta67_88_108 (W : World) (v : Value) : (Instr.typeAssert (.iface 88 v) 67 108 true).run Tryz.prog W = .ok (.tuple #[.bool false, .bool false]) W := by kernel_rfl
theorem ta67_88_109 (W : World) (v : Value) : (Instr.typeAssert (.iface 88 v) 67 109 true).run Tryz.prog W = .ok (.tuple #[.pointer none, .bool false]) W := by kernel_rfl
theorem ta67_88_88 (W : World) (v : Value) : (Instr.typeAssert (.iface 88 v) 67 88 true).run Tryz.prog W = .ok (.tuple #[v, .bool true]) W := by kernel_rfl
theorem ta67_94_108 (W : World) (v : Value) : (Instr.typeAssert (.iface 94 v) 67 108 true).run Tryz.prog W = .ok (.tuple #[.bool false, .bool false]) W := by kernel_rfl
theorem ta67_94_109 (W : World) (v : Value) : (Instr.typeAssert (.iface 94 v) 67 109 true).run Tryz.prog W = .ok (.tuple #[.pointer none, .bool false]) W := by kernel_rfl
theorem ta67_94_88 (W : World) (v : Value) : (Instr.typeAssert (.iface 94 v) 67 88 true).run Tryz.prog W = .ok (.tuple #[.int .i64 0, .bool false]) W := by kernel_rfl
theorem ta67_94_94 (W : World) (v : Value) : (Instr.typeAssert (.iface 94 v) 67 94 true).run Tryz.prog W = .ok (.tuple #[v, .bool true]) W := by kernel_rfl
theorem ta67_126_108 (W : World) (v : Value) : (Instr.typeAssert (.iface 126 v) 67 108 true).run Tryz.prog W = .ok (.tuple #[.bool false, .bool false]) W := by kernel_rfl
theorem ta67_126_109 (W : World) (v : Value) : (Instr.typeAssert (.iface 126 v) 67 109 true).run Tryz.prog W = .ok (.tuple #[.pointer none, .bool false]) W := by kernel_rfl
theorem ta67_126_88 (W : World) (v : Value) : (Instr.typeAssert (.iface 126 v) 67 88 true).run Tryz.prog W = .ok (.tuple #[.int .i64 0, .bool false]) W := by kernel_rfl
theorem ta67_126_94 (W : World) (v : Value) : (Instr.typeAssert (.iface 126 v) 67 94 true).run Tryz.prog W = .ok (.tuple #[.agg #[.pointer none], .bool false]) W := by kernel_rfl
theorem ta67_126_126 (W : World) (v : Value) : (Instr.typeAssert (.iface 126 v) 67 126 true).run Tryz.prog W = .ok (.tuple #[v, .bool true]) W := by kernel_rfl
theorem ta20_2_2 (W : World) (v : Value) : (Instr.typeAssert (.iface 2 v) 20 2 true).run Tryz.prog W = .ok (.tuple #[v, .bool true]) W := by kernel_rfl
theorem ta20_89_2 (W : World) (v : Value) : (Instr.typeAssert (.iface 89 v) 20 2 true).run Tryz.prog W = .ok (.tuple #[.int .i64 0, .bool false]) W := by kernel_rfl
theorem ta20_89_89 (W : World) (v : Value) : (Instr.typeAssert (.iface 89 v) 20 89 true).run Tryz.prog W = .ok (.tuple #[v, .bool true]) W := by kernel_rfl
theorem ta20_118_2 (W : World) (v : Value) : (Instr.typeAssert (.iface 118 v) 20 2 true).run Tryz.prog W = .ok (.tuple #[.int .i64 0, .bool false]) W := by kernel_rfl
theorem ta20_118_89 (W : World) (v : Value) : (Instr.typeAssert (.iface 118 v) 20 89 true).run Tryz.prog W = .ok (.tuple #[.pointer none, .bool false]) W := by kernel_rfl
theorem ta20_118_118 (W : World) (v : Value) : (Instr.typeAssert (.iface 118 v) 20 118 true).run Tryz.prog W = .ok (.tuple #[v, .bool true]) W := by kernel_rfl
end Go.Proofs.YtgpoplfgngiilaaGreatDoor

namespace Go.Proofs.YtgpoplfgngiilaaGreatDoor
open Go.RowKit Go.Proofs.YtgpoplfgngiilaaGreatDoorW.PrintWords PAll

set_option maxHeartbeats 400000 in
set_option maxRecDepth 100000 in
theorem val64 (x : Int) (w : World) :
    Calls Tryz.prog 57 #[.iface 88 (.int .i64 x)] w fun e w' => e = .returned (.iface 2 (.int .i64 x)) ∧ w = w' := by
  have t1 := fun W => ta67_88_108 W (.int .i64 x)
  have t2 := fun W => ta67_88_109 W (.int .i64 x)
  have t3 := fun W => ta67_88_88 W (.int .i64 x)
  go_enter Tryz.func57, Tryz.ntmps57
  go_wp2
  go_ret
  exact ⟨rfl, rfl⟩

theorem number_wd (g : Nat) (neg : Bool) (v : Value) (S : Nat → Prop) (xs : List Int) (w : World) (hbk : w.heap[g]? = some (.cells #[.bool neg, v] 116 (0, 0))) (hv : Wd S w v xs) (hl : xs.length < 17592186044416) :
    Calls Tryz.prog 58 #[.pointer (some ⟨g, 0, none⟩)] w fun e w' => ∃ u : Value, e = .returned (.agg #[.bool (decide (sgn neg xs.length < 0)), u]) ∧ Wd (fun k => w.heap.size ≤ k) w' u xs ∧ Below w.heap.size w w' := by
  obtain ⟨A, c, rfl, _, hC, _⟩ := hv
  refine (number_any g neg A c xs w (blk_cell hbk 0) (blk_cell hbk 1) hC hl).mono ?_
  rintro e w' ⟨u, he, hO, hb⟩
  exact ⟨u, he, Wd_R hO, hb⟩

theorem wordsOf1_len (x : Int) : (wordsOf1 x).length < 17592186044416 := by unfold wordsOf1; split <;> simp

set_option maxHeartbeats 1000000 in
set_option maxRecDepth 100000 in
theorem parts64 (x : Int) (w : World) (h0 : 0 ≤ x) (h1 : x < 9223372036854775808) :
    Calls Tryz.prog 40 #[.iface 88 (.int .i64 x)] w fun e w' => ∃ u u2 : Value, e = .returned (.tuple #[.agg #[.bool false, u], u2]) ∧ Wd (fun k => w.heap.size ≤ k) w' u (wordsOf1 x) ∧ Below w.heap.size w w' := by
  have t1 := fun W => ta20_2_2 W (.int .i64 x)
  go_enter Tryz.func40, Tryz.ntmps40
  go_wp2_with fail
  refine (val64 x _).mono ?_
  rintro e w' ⟨rfl, rfl⟩
  go_wp2_with fail
  obtain ⟨W0, hW0⟩ : ∃ W0, W0 = (w.alloc (.cells #[.bool false, .slice none 0 0] 24)).alloc (.cells #[.bool false, .slice none 0 0] 116) := ⟨_, rfl⟩
  have hn0 : W0.heap[w.heap.size]? = some (.cells #[.bool false, .slice none 0 0] 24 (0, 0)) := by rw [hW0]; exact blk_alloc (heap_alloc_new _ _) _
  have hn1 : W0.heap[w.heap.size + 1]? = some (.cells #[.bool false, .slice none 0 0] 116 (0, 0)) := by rw [hW0]; simpa using heap_alloc_new (w.alloc (.cells #[.bool false, .slice none 0 0] 24)) (.cells #[.bool false, .slice none 0 0] 116)
  have hB0 : Below w.heap.size w W0 := by rw [hW0]; exact below_alloc (below_alloc (Below.refl _ _) _) _
  rw [← hW0]
  clear hW0
  refine (setInt64_nil _ x W0 h0 h1 hn1).mono ?_
  rintro e w1 ⟨rfl, v, hbk, hv, hk⟩
  have hlt0 := blk_lt hn0
  have hn2 : w1.heap[w.heap.size]? = some (.cells #[.bool false, .slice none 0 0] 24 (0, 0)) := blk_grown hn0 hk (by simp)
  have hB1 : Below w.heap.size w w1 := hB0.grown hk hB0.size (by rintro k hk; cases hk; omega)
  have HN := Aside0.mk hn2
  have HBK := Aside0.mk hbk
  have HV := Aside0.mk hv
  have HB1 := Aside0.mk hB1
  clear hn0 hn1 hB0 hbk hv hk hn2 hlt0 hB1
  go_wp2_with fail
  refine (number_wd _ _ v _ _ _ HBK.out HV.out (wordsOf1_len x)).mono ?_
  rintro e w2 ⟨u, rfl, hu, hb⟩
  obtain ⟨Au, cu, rfl, _⟩ := id hu
  have HU := Aside0.mk hu
  have HB2 := Aside0.mk hb
  have hn3 := blk_alloc (blk_below HN.out hb) (.cells #[.int .u64 1] 50)
  have hc0 : (w2.alloc (.cells #[.int .u64 1] 50)).cell? ⟨w.heap.size, 0, none⟩ = some (.bool false) := blk_cell hn3 0
  have hc1 : (w2.alloc (.cells #[.int .u64 1] 50)).cell? ⟨w.heap.size, 1, none⟩ = some (.slice none 0 0) := blk_cell hn3 1
  have hf0 : (w2.alloc (.cells #[.int .u64 1] 50)).frozen? ⟨w.heap.size, 0, none⟩ = false := blk_frozen hn3 0
  have hf1 : (w2.alloc (.cells #[.int .u64 1] 50)).frozen? ⟨w.heap.size, 1, none⟩ = false := blk_frozen hn3 1
  have HN3 := Aside0.mk hn3
  clear hu hb hn3
  go_wp2_with fail
  refine bodyPost_ret (results_ct rfl _ _ w.heap.size 24 #[.bool (decide (sgn false (wordsOf1 x).length < 0)), .slice Au (wordsOf1 x).length cu] (0, 0) _ rfl (blk_put (cs := #[.bool (decide (sgn false (wordsOf1 x).length < 0)), .slice none 0 0]) (blk_put (cs := #[.bool false, .slice none 0 0]) HN3.out 0 _ rfl) 1 _ rfl) Tryz.underlying24 rfl (by kernel_rfl)) rfl ?_
  have hs : decide (sgn false (wordsOf1 x).length < 0) = false := by unfold sgn; split <;> simp
  rw [hs]
  refine ⟨.slice Au (wordsOf1 x).length cu, _, rfl, ?_, ?_⟩
  · have hsz := HB1.out.size
    have hlt := blk_lt HN.out
    have hu2 := Wd_below HU.out (below_alloc (Below.refl _ _) (.cells #[.int .u64 1] 50))
    exact Wd_mono (Wd_far (Wd_far hu2 (by simp; omega) _) (by simp; omega) _) (fun k hk => by omega)
  · exact ((below_alloc (HB1.out.trans (HB2.out.mono HB1.out.size)) _).setCell (by simp) _).setCell (by simp) _
end Go.Proofs.YtgpoplfgngiilaaGreatDoor

namespace Go.Proofs.YtgpoplfgngiilaaGreatDoor
open Go.RowKit Go.Proofs.YtgpoplfgngiilaaGreatDoorW.PrintWords PAll

/-- The nine cells of a Value that holds nothing. -/
def noCells : Array Value := #[.int .i64 0, .bool false, .string ⟨#[]⟩, .bool false, .slice none 0 0, .slice none 0 0, .bool false, .slice none 0 0, .slice none 0 0]
/-- A Value of a number as plain data: its kind, its sign, its words, the words under it. -/
def numVal (k : Int) (neg : Bool) (v v2 : Value) : Value := .agg #[.int .i64 k, .bool false, .string ⟨#[]⟩, .bool neg, v, v2, .bool false, .slice none 0 0, .slice none 0 0]
/-- A Value of Kind Int as plain data. -/
def intVal (v : Value) : Value := numVal 3 false v (.slice none 0 0)

theorem kind64 (x : Int) (w : World) : Calls Tryz.prog 308 #[.int .i64 x] w fun e w' => e = .returned (.int .i64 3) ∧ w = w' := by
  go_enter Tryz.func308, Tryz.ntmps308
  go_wp2
  go_ret
  exact ⟨rfl, rfl⟩

set_option maxHeartbeats 2000000 in
set_option maxRecDepth 100000 in
theorem told64 (x : Int) (w : World) (h0 : 0 ≤ x) (h1 : x < 9223372036854775808) :
    Calls Tryz.prog 26 #[.iface 88 (.int .i64 x)] w fun e w' => ∃ u : Value, e = .returned (intVal u) ∧ Wd (fun k => w.heap.size ≤ k) w' u (wordsOf1 x) ∧ Below w.heap.size w w' := by
  go_enter Tryz.func26, Tryz.ntmps26
  go_wp2_with fail
  refine (kind64 x _).mono ?_
  rintro e w' ⟨rfl, rfl⟩
  go_wp2_with fail
  refine (kind64 x _).mono ?_
  rintro e w' ⟨rfl, rfl⟩
  go_wp2_with fail
  obtain ⟨W0, hW0⟩ : ∃ W0, W0 = (w.alloc (.cells #[.int .i64 0, .bool false, .string ⟨#[]⟩, .bool false, .slice none 0 0, .slice none 0 0, .bool false, .slice none 0 0, .slice none 0 0] 26)).alloc (.cells #[.int .i64 3, .bool false, .string ⟨#[]⟩, .bool false, .slice none 0 0, .slice none 0 0, .bool false, .slice none 0 0, .slice none 0 0] 26) := ⟨_, rfl⟩
  have hn0 : W0.heap[w.heap.size]? = some (.cells #[.int .i64 0, .bool false, .string ⟨#[]⟩, .bool false, .slice none 0 0, .slice none 0 0, .bool false, .slice none 0 0, .slice none 0 0] 26 (0, 0)) := by rw [hW0]; exact blk_alloc (heap_alloc_new _ _) _
  have hn1 : W0.heap[w.heap.size + 1]? = some (.cells #[.int .i64 3, .bool false, .string ⟨#[]⟩, .bool false, .slice none 0 0, .slice none 0 0, .bool false, .slice none 0 0, .slice none 0 0] 26 (0, 0)) := by rw [hW0]; simpa using heap_alloc_new (w.alloc (.cells #[.int .i64 0, .bool false, .string ⟨#[]⟩, .bool false, .slice none 0 0, .slice none 0 0, .bool false, .slice none 0 0, .slice none 0 0] 26)) (.cells #[.int .i64 3, .bool false, .string ⟨#[]⟩, .bool false, .slice none 0 0, .slice none 0 0, .bool false, .slice none 0 0, .slice none 0 0] 26)
  have hB0 : Below w.heap.size w W0 := by rw [hW0]; exact below_alloc (below_alloc (Below.refl _ _) _) _
  rw [← hW0]
  clear hW0
  refine (parts64 x W0 h0 h1).mono ?_
  rintro e w1 ⟨u, u2, rfl, hu, hb⟩
  obtain ⟨A, c, rfl, _⟩ := id hu
  have HU := Aside0.mk hu
  have HB := Aside0.mk (below_step hB0 hb)
  have HS := Aside0.mk hB0.size
  have hn2 := blk_below hn0 hb
  have hn3 := blk_below hn1 hb
  have HN2 := Aside0.mk hn2
  have HN3 := Aside0.mk hn3
  have HL := Aside0.mk (blk_lt hn1)
  clear hu hb hn0 hn1 hB0
  have ac0 : w1.cell? ⟨w.heap.size, 0, none⟩ = some (.int .i64 0) := blk_cell HN2.out 0
  have af0 : w1.frozen? ⟨w.heap.size, 0, none⟩ = false := blk_frozen HN2.out 0
  have ac1 : w1.cell? ⟨w.heap.size, 1, none⟩ = some (.bool false) := blk_cell HN2.out 1
  have af1 : w1.frozen? ⟨w.heap.size, 1, none⟩ = false := blk_frozen HN2.out 1
  have ac2 : w1.cell? ⟨w.heap.size, 2, none⟩ = some (.string ⟨#[]⟩) := blk_cell HN2.out 2
  have af2 : w1.frozen? ⟨w.heap.size, 2, none⟩ = false := blk_frozen HN2.out 2
  have ac3 : w1.cell? ⟨w.heap.size, 3, none⟩ = some (.bool false) := blk_cell HN2.out 3
  have af3 : w1.frozen? ⟨w.heap.size, 3, none⟩ = false := blk_frozen HN2.out 3
  have ac4 : w1.cell? ⟨w.heap.size, 4, none⟩ = some (.slice none 0 0) := blk_cell HN2.out 4
  have af4 : w1.frozen? ⟨w.heap.size, 4, none⟩ = false := blk_frozen HN2.out 4
  have ac5 : w1.cell? ⟨w.heap.size, 5, none⟩ = some (.slice none 0 0) := blk_cell HN2.out 5
  have af5 : w1.frozen? ⟨w.heap.size, 5, none⟩ = false := blk_frozen HN2.out 5
  have ac6 : w1.cell? ⟨w.heap.size, 6, none⟩ = some (.bool false) := blk_cell HN2.out 6
  have af6 : w1.frozen? ⟨w.heap.size, 6, none⟩ = false := blk_frozen HN2.out 6
  have ac7 : w1.cell? ⟨w.heap.size, 7, none⟩ = some (.slice none 0 0) := blk_cell HN2.out 7
  have af7 : w1.frozen? ⟨w.heap.size, 7, none⟩ = false := blk_frozen HN2.out 7
  have ac8 : w1.cell? ⟨w.heap.size, 8, none⟩ = some (.slice none 0 0) := blk_cell HN2.out 8
  have af8 : w1.frozen? ⟨w.heap.size, 8, none⟩ = false := blk_frozen HN2.out 8
  have bc0 : w1.cell? ⟨w.heap.size + 1, 0, none⟩ = some (.int .i64 3) := blk_cell HN3.out 0
  have bf0 : w1.frozen? ⟨w.heap.size + 1, 0, none⟩ = false := blk_frozen HN3.out 0
  have bc1 : w1.cell? ⟨w.heap.size + 1, 1, none⟩ = some (.bool false) := blk_cell HN3.out 1
  have bf1 : w1.frozen? ⟨w.heap.size + 1, 1, none⟩ = false := blk_frozen HN3.out 1
  have bc2 : w1.cell? ⟨w.heap.size + 1, 2, none⟩ = some (.string ⟨#[]⟩) := blk_cell HN3.out 2
  have bf2 : w1.frozen? ⟨w.heap.size + 1, 2, none⟩ = false := blk_frozen HN3.out 2
  have bc3 : w1.cell? ⟨w.heap.size + 1, 3, none⟩ = some (.bool false) := blk_cell HN3.out 3
  have bf3 : w1.frozen? ⟨w.heap.size + 1, 3, none⟩ = false := blk_frozen HN3.out 3
  have bc4 : w1.cell? ⟨w.heap.size + 1, 4, none⟩ = some (.slice none 0 0) := blk_cell HN3.out 4
  have bf4 : w1.frozen? ⟨w.heap.size + 1, 4, none⟩ = false := blk_frozen HN3.out 4
  have bc5 : w1.cell? ⟨w.heap.size + 1, 5, none⟩ = some (.slice none 0 0) := blk_cell HN3.out 5
  have bf5 : w1.frozen? ⟨w.heap.size + 1, 5, none⟩ = false := blk_frozen HN3.out 5
  have bc6 : w1.cell? ⟨w.heap.size + 1, 6, none⟩ = some (.bool false) := blk_cell HN3.out 6
  have bf6 : w1.frozen? ⟨w.heap.size + 1, 6, none⟩ = false := blk_frozen HN3.out 6
  have bc7 : w1.cell? ⟨w.heap.size + 1, 7, none⟩ = some (.slice none 0 0) := blk_cell HN3.out 7
  have bf7 : w1.frozen? ⟨w.heap.size + 1, 7, none⟩ = false := blk_frozen HN3.out 7
  have bc8 : w1.cell? ⟨w.heap.size + 1, 8, none⟩ = some (.slice none 0 0) := blk_cell HN3.out 8
  have bf8 : w1.frozen? ⟨w.heap.size + 1, 8, none⟩ = false := blk_frozen HN3.out 8
  clear hn2 hn3
  go_wp2_with fail
  refine bodyPost_ret (results_cell_row rfl _ _ w.heap.size 26 #[.int .i64 3, .bool false, .string ⟨#[]⟩, .bool false, .slice A (wordsOf1 x).length c, .slice none 0 0, .bool false, .slice none 0 0, .slice none 0 0] (0, 0) _ rfl (blk_put (cs := #[.int .i64 3, .bool false, .string ⟨#[]⟩, .bool false, .slice A (wordsOf1 x).length c, .slice none 0 0, .bool false, .slice none 0 0, .slice none 0 0]) (blk_put (cs := #[.int .i64 3, .bool false, .string ⟨#[]⟩, .bool false, .slice A (wordsOf1 x).length c, .slice none 0 0, .bool false, .slice none 0 0, .slice none 0 0]) (blk_put (cs := #[.int .i64 3, .bool false, .string ⟨#[]⟩, .bool false, .slice A (wordsOf1 x).length c, .slice none 0 0, .bool false, .slice none 0 0, .slice none 0 0]) (blk_put (cs := #[.int .i64 3, .bool false, .string ⟨#[]⟩, .bool false, .slice A (wordsOf1 x).length c, .slice none 0 0, .bool false, .slice none 0 0, .slice none 0 0]) (blk_put (cs := #[.int .i64 3, .bool false, .string ⟨#[]⟩, .bool false, .slice none 0 0, .slice none 0 0, .bool false, .slice none 0 0, .slice none 0 0]) (blk_put (cs := #[.int .i64 3, .bool false, .string ⟨#[]⟩, .bool false, .slice none 0 0, .slice none 0 0, .bool false, .slice none 0 0, .slice none 0 0]) (blk_put (cs := #[.int .i64 3, .bool false, .string ⟨#[]⟩, .bool false, .slice none 0 0, .slice none 0 0, .bool false, .slice none 0 0, .slice none 0 0]) (blk_put (cs := #[.int .i64 3, .bool false, .string ⟨#[]⟩, .bool false, .slice none 0 0, .slice none 0 0, .bool false, .slice none 0 0, .slice none 0 0]) (blk_put (cs := #[.int .i64 0, .bool false, .string ⟨#[]⟩, .bool false, .slice none 0 0, .slice none 0 0, .bool false, .slice none 0 0, .slice none 0 0]) (blk_far (p := ⟨w.heap.size + 1, 4, none⟩) (blk_far (p := ⟨w.heap.size + 1, 3, none⟩) HN2.out (by simp) _) (by simp) _) 0 _ rfl) 1 _ rfl) 2 _ rfl) 3 _ rfl) 4 _ rfl) 5 _ rfl) 6 _ rfl) 7 _ rfl) 8 _ rfl) Tryz.underlying26 rfl (by kernel_rfl)) rfl ?_
  have hlt := HL.out
  refine ⟨.slice A (wordsOf1 x).length c, rfl, ?_, ?_⟩
  · refine Wd_mono (S := fun k => W0.heap.size ≤ k) ?_ (fun k hk => Nat.le_trans HS.out hk)
    repeat refine Wd_far ?_ (by simp; omega) _
    exact HU.out
  · repeat refine Below.setCell ?_ (by simp) _
    exact HB.out
end Go.Proofs.YtgpoplfgngiilaaGreatDoor
