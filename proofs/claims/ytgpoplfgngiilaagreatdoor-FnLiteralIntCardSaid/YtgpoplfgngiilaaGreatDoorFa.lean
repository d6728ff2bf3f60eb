/- The law FnLiteralInt: what its walk carries; its early ways. (wip/gen/fi.py wrote it.) The law FnLiteralInt at its form 0. (wip/gen/fi.py wrote it.) The law FnLiteralInt at its form 1. (wip/gen/fi.py wrote it.) The law FnLiteralInt at its form 2. (wip/gen/fi.py wrote it.) The law FnLiteralInt at its form 3. (wip/gen/fi.py wrote it.) -/
import Derived.Test.YtgpoplfgngiilaaGreatDoorIz
import Derived.Test.YtgpoplfgngiilaaGreatDoorLz
import Derived.Test.YtgpoplfgngiilaaGreatDoorSC
import Derived.Deep.RegionHeld3
set_option linter.unusedVariables false
set_option linter.unusedSimpArgs false
namespace Go.Proofs.YtgpoplfgngiilaaGreatDoor
open Go.RowKit Go.Proofs.YtgpoplfgngiilaaGreatDoorW.PrintWords PAll Pl

set_option maxHeartbeats 2000000 in
set_option maxRecDepth 100000 in
theorem int_fits_no (kd : Int) (tr : Bool) (tx : ByteArray) (neg : Bool) (A : Option Addr) (c : Nat) (xs : List Int) (A2 : Option Addr) (c2 : Nat) (zs : List Int) (ineg : Bool) (A3 : Option Addr) (c3 : Nat) (xs3 : List Int) (A4 : Option Addr) (c4 : Nat) (xs4 : List Int) (f : Int) (great split : Bool) (w : World) (hA : Kd.C (Kd.int .u64) w A xs.length xs) (hc : xs.length ≤ c) (hA2 : Kd.C (Kd.int .u64) w A2 zs.length zs) (hc2 : zs.length ≤ c2) (hA3 : Kd.C (Kd.int .u64) w A3 xs3.length xs3) (hc3 : xs3.length ≤ c3) (hA4 : Kd.C (Kd.int .u64) w A4 xs4.length xs4) (hc4 : xs4.length ≤ c4) (hr : laws_zzFits1.f kd tr tx neg xs zs ineg xs3 xs4 = some false) :
    Calls Tryz.prog 3 #[.agg #[.int .i64 kd, .bool tr, .string tx, .bool neg, .slice A xs.length c, .slice A2 zs.length c2, .bool ineg, .slice A3 xs3.length c3, .slice A4 xs4.length c4], .int .u8 f, .bool great, .bool split] w fun e w' => e = .returned (.bool true) ∧ Below w.heap.size w w' := by
  obtain ⟨W0, hW0⟩ : ∃ W0, W0 = w.alloc (.cells #[.int .i64 kd, .bool tr, .string tx, .bool neg, .slice A xs.length c, .slice A2 zs.length c2, .bool ineg, .slice A3 xs3.length c3, .slice A4 xs4.length c4] 26) := ⟨_, rfl⟩
  have hB0 : Below w.heap.size w W0 := by rw [hW0]; exact below_alloc (Below.refl _ _) _
  have hn0 : W0.heap[w.heap.size]? = some (.cells #[.int .i64 kd, .bool tr, .string tx, .bool neg, .slice A xs.length c, .slice A2 zs.length c2, .bool ineg, .slice A3 xs3.length c3, .slice A4 xs4.length c4] 26 (0, 0)) := by rw [hW0]; exact heap_alloc_new _ _
  have H6 := Aside0.mk (laws_zzFits1.calls kd tr tx neg A c xs A2 c2 zs ineg A3 c3 xs3 A4 c4 xs4 false W0 (Kd.C_below hA hB0) hc (Kd.C_below hA2 hB0) hc2 (Kd.C_below hA3 hB0) hc3 (Kd.C_below hA4 hB0) hc4 hr)
  have HB0 := Aside0.mk hB0
  have HN0 := Aside0.mk hn0
  have HW0 := Lib.hid hW0
  clear hW0 hB0 hn0 hr hA hc hA2 hc2 hA3 hc3 hA4 hc4
  go_enter Tryz.func3, Tryz.ntmps3
  go_wp2_with fail
  rw [← HW0.out]
  refine H6.out.mono ?_
  rintro e w1 ⟨rfl, hb⟩
  have HB := Aside0.mk (below_step HB0.out hb)
  clear hb
  go_wp2_with fail
  go_ret
  exact ⟨rfl, HB.out⟩

set_option maxHeartbeats 2000000 in
set_option maxRecDepth 100000 in
theorem int_great (kd : Int) (tr : Bool) (tx : ByteArray) (neg : Bool) (A : Option Addr) (c : Nat) (xs : List Int) (A2 : Option Addr) (c2 : Nat) (zs : List Int) (ineg : Bool) (A3 : Option Addr) (c3 : Nat) (xs3 : List Int) (A4 : Option Addr) (c4 : Nat) (xs4 : List Int) (f : Int) (great split : Bool) (w : World) (hA : Kd.C (Kd.int .u64) w A xs.length xs) (hc : xs.length ≤ c) (hA2 : Kd.C (Kd.int .u64) w A2 zs.length zs) (hc2 : zs.length ≤ c2) (hA3 : Kd.C (Kd.int .u64) w A3 xs3.length xs3) (hc3 : xs3.length ≤ c3) (hA4 : Kd.C (Kd.int .u64) w A4 xs4.length xs4) (hc4 : xs4.length ≤ c4) (hr : laws_zzFits1.f kd tr tx neg xs zs ineg xs3 xs4 = some true) (hl : 10 < xs.length) :
    Calls Tryz.prog 3 #[.agg #[.int .i64 kd, .bool tr, .string tx, .bool neg, .slice A xs.length c, .slice A2 zs.length c2, .bool ineg, .slice A3 xs3.length c3, .slice A4 xs4.length c4], .int .u8 f, .bool great, .bool split] w fun e w' => e = .returned (.bool true) ∧ Below w.heap.size w w' := by
  obtain ⟨W0, hW0⟩ : ∃ W0, W0 = w.alloc (.cells #[.int .i64 kd, .bool tr, .string tx, .bool neg, .slice A xs.length c, .slice A2 zs.length c2, .bool ineg, .slice A3 xs3.length c3, .slice A4 xs4.length c4] 26) := ⟨_, rfl⟩
  have hB0 : Below w.heap.size w W0 := by rw [hW0]; exact below_alloc (Below.refl _ _) _
  have hn0 : W0.heap[w.heap.size]? = some (.cells #[.int .i64 kd, .bool tr, .string tx, .bool neg, .slice A xs.length c, .slice A2 zs.length c2, .bool ineg, .slice A3 xs3.length c3, .slice A4 xs4.length c4] 26 (0, 0)) := by rw [hW0]; exact heap_alloc_new _ _
  have H6 := Aside0.mk (laws_zzFits1.calls kd tr tx neg A c xs A2 c2 zs ineg A3 c3 xs3 A4 c4 xs4 true W0 (Kd.C_below hA hB0) hc (Kd.C_below hA2 hB0) hc2 (Kd.C_below hA3 hB0) hc3 (Kd.C_below hA4 hB0) hc4 hr)
  have HB0 := Aside0.mk hB0
  have HN0 := Aside0.mk hn0
  have HW0 := Lib.hid hW0
  clear hW0 hB0 hn0 hr hA hc hA2 hc2 hA3 hc3 hA4 hc4
  go_enter Tryz.func3, Tryz.ntmps3
  go_wp2_with fail
  rw [← HW0.out]
  refine H6.out.mono ?_
  rintro e w1 ⟨rfl, hb⟩
  have hbk := blk_below HN0.out hb
  have k0 : w1.cell? ⟨w.heap.size, 0, none⟩ = some (.int .i64 kd) := blk_cell hbk 0
  have k1 : w1.cell? ⟨w.heap.size, 1, none⟩ = some (.bool tr) := blk_cell hbk 1
  have k2 : w1.cell? ⟨w.heap.size, 2, none⟩ = some (.string tx) := blk_cell hbk 2
  have k3 : w1.cell? ⟨w.heap.size, 3, none⟩ = some (.bool neg) := blk_cell hbk 3
  have k4 : w1.cell? ⟨w.heap.size, 4, none⟩ = some (.slice A xs.length c) := blk_cell hbk 4
  have k5 : w1.cell? ⟨w.heap.size, 5, none⟩ = some (.slice A2 zs.length c2) := blk_cell hbk 5
  have k6 : w1.cell? ⟨w.heap.size, 6, none⟩ = some (.bool ineg) := blk_cell hbk 6
  have k7 : w1.cell? ⟨w.heap.size, 7, none⟩ = some (.slice A3 xs3.length c3) := blk_cell hbk 7
  have k8 : w1.cell? ⟨w.heap.size, 8, none⟩ = some (.slice A4 xs4.length c4) := blk_cell hbk 8
  have HB := Aside0.mk (below_step HB0.out hb)
  clear hb hbk
  go_wp2_with fail
  refine (whole_great kd tr tx neg A xs.length c _ ineg _ _ w1 hl).mono ?_
  rintro e w2 ⟨rfl, hb⟩
  have HB2 := Aside0.mk (below_step HB.out hb)
  clear hb
  go_wp2_with fail
  go_ret
  exact ⟨rfl, below_alloc HB2.out _⟩

/-- What stays while the law runs on: the number's block, its digits. -/
structure Lw (w : World) (b9 : Nat) (A1 : Option Addr) (n1 c1 : Nat) (A5 : Option Addr) (c5 : Nat) (V : Nat) (W : World) : Prop where
  below : Below w.heap.size w W
  lb : w.heap.size ≤ b9
  blk : W.heap[b9]? = some (.cells #[.bool false, .slice A1 n1 c1, .slice A5 1 c5] 31 (0, 0))
  dig : Kd.V (Kd.int .i64) 3 W 0 (fun k => w.heap.size ≤ k) (.slice A1 n1 c1) (figs 65536 V)
  one : Kd.V (Kd.int .i64) 3 W 0 (fun k => w.heap.size ≤ k) (.slice A5 1 c5) [1]
section
variable {w W W1 : World} {b9 : Nat} {A1 : Option Addr} {n1 c1 : Nat} {A5 : Option Addr} {c5 V : Nat}
theorem Lw.next (h : Lw w b9 A1 n1 c1 A5 c5 V W) (hb : Below W.heap.size W W1) : Lw w b9 A1 n1 c1 A5 c5 V W1 :=
  ⟨below_step h.below hb, h.lb, blk_below h.blk hb, Kd.V_below h.dig hb, Kd.V_below h.one hb⟩
theorem Lw.drew (h : Lw w b9 A1 n1 c1 A5 c5 V W) : Lw w b9 A1 n1 c1 A5 c5 V W.drew := h.next (below_drew (Below.refl _ _))
theorem Lw.drewN (h : Lw w b9 A1 n1 c1 A5 c5 V W) (n : Nat) : Lw w b9 A1 n1 c1 A5 c5 V (W.drewN n) := h.next (pw_below_drewN (Below.refl _ _) n)
theorem Lw.cells (h : Lw w b9 A1 n1 c1 A5 c5 V W) : W.cell? ⟨b9, 0, none⟩ = some (.bool false) ∧ W.cell? ⟨b9, 1, none⟩ = some (.slice A1 n1 c1) ∧ W.cell? ⟨b9, 2, none⟩ = some (.slice A5 1 c5) ∧ Lw w b9 A1 n1 c1 A5 c5 V W :=
  ⟨blk_cell h.blk 0, blk_cell h.blk 1, blk_cell h.blk 2, h⟩
end

/-- The text that the law builds: InBase's figures, underscored or not. -/
theorem und_text (b V : Nat) (great split : Bool) (hb : 2 ≤ b) (hb16 : b ≤ 16) (hV : (figs 18446744073709551616 V).length ≤ 10) :
    ∃ (k : Nat) (u t : ByteArray), spec_InBase.f k (figs 65536 V) b great = some u ∧ laws_underscored.f u split = some t ∧ Ft b V t := by
  obtain ⟨m, hm⟩ : ∃ m, m = 640 := ⟨_, rfl⟩
  have hlt : V < 2 ^ m := by
    have h1 := (val_range (B := ((18446744073709551616 : Nat) : Int)) (by decide) (figs_Dg (by decide) V)).2
    rw [figs_val (by decide)] at h1
    have h2 : V < 18446744073709551616 ^ (figs 18446744073709551616 V).length := by exact_mod_cast h1
    have h3 : (18446744073709551616 : Nat) ^ (figs 18446744073709551616 V).length ≤ 18446744073709551616 ^ 10 := Nat.pow_le_pow_right (by decide) hV
    have hm2 : 64 * 10 = m := hm.symm
    have e : (18446744073709551616 : Nat) ^ 10 = 2 ^ m := by rw [show (18446744073709551616 : Nat) = 2 ^ 64 from rfl, ← Nat.pow_mul, hm2]
    exact Nat.lt_of_lt_of_le h2 (Nat.le_trans h3 (Nat.le_of_eq e))
  obtain ⟨u, hu, hF, hul, hus, hum⟩ := inBase_f V b m great hlt (by omega) hb hb16
  clear hlt
  obtain ⟨k, hk⟩ := hu.rounds
  have hft : Ft b V u := Ft.of_figs (up := great) hb hb16 hF hul hus (by omega)
  have hn : ∀ j : Nat, j < u.size → bt u j ≠ 95 := by
    intro j hj
    have h := tab_at great (V / b ^ (u.size - 1 - j) % b) (Nat.lt_of_lt_of_le (Nat.mod_lt _ (by omega)) hb16)
    rw [hF j hj]
    have := h.1
    omega
  have ex0 : (u.extract 0 1).size = 1 := by rw [ByteArray.size_extract, Nat.min_eq_left (by have := hft.pos; omega)]
  cases split with
  | false => exact ⟨k, u, u, hk, by unfold laws_underscored.f; rfl, hft⟩
  | true =>
    by_cases h2 : 2 ≤ u.size
    · refine ⟨k, u, _, hk, ?_, hft.under h2 hn (by omega)⟩
      unfold laws_underscored.f
      have s2 : ((u.extract 0 1) ++ (⟨#[95]⟩ : ByteArray)).size = 2 := by rw [ByteArray.size_append, ex0]; rfl
      have s3 : (u.extract 1 u.size).size = u.size - 1 := by rw [ByteArray.size_extract, Nat.min_eq_left (Nat.le_refl _)]
      rw [if_pos rfl, if_neg (by omega), if_pos (by omega), if_pos (by omega), if_pos (by omega), if_pos (by omega)]
    · refine ⟨k, u, u, hk, ?_, hft⟩
      unfold laws_underscored.f
      rw [if_pos rfl, if_pos (by omega)]
end Go.Proofs.YtgpoplfgngiilaaGreatDoor

namespace Go.Proofs.YtgpoplfgngiilaaGreatDoor
open Go.RowKit Go.Proofs.YtgpoplfgngiilaaGreatDoorW.PrintWords PAll Pl

set_option maxHeartbeats 4000000 in
set_option maxRecDepth 100000 in
theorem int_form0 (kd : Int) (tr : Bool) (tx : ByteArray) (neg : Bool) (A : Option Addr) (c : Nat) (xs : List Int) (A2 : Option Addr) (c2 : Nat) (zs : List Int) (ineg : Bool) (A3 : Option Addr) (c3 : Nat) (xs3 : List Int) (A4 : Option Addr) (c4 : Nat) (xs4 : List Int) (f : Int) (great split : Bool) (w : World) (hA : Kd.C (Kd.int .u64) w A xs.length xs) (hc : xs.length ≤ c) (hA2 : Kd.C (Kd.int .u64) w A2 zs.length zs) (hc2 : zs.length ≤ c2) (hA3 : Kd.C (Kd.int .u64) w A3 xs3.length xs3) (hc3 : xs3.length ≤ c3) (hA4 : Kd.C (Kd.int .u64) w A4 xs4.length xs4) (hc4 : xs4.length ≤ c4) (hd : Dg (18446744073709551616 : Nat) xs) (hl : xs.length ≤ 10) (hr : laws_zzFits1.f kd tr tx neg xs zs ineg xs3 xs4 = some true) (hf0 : 0 ≤ f) (hf1 : f < 256) (hf : f % 8 = 0)
    (pa : Addr) (ev : Value) (hev : Eof w pa) (h2 : w.cell? ⟨2, 0, none⟩ = some ev) (hev2 : ev = .nilIface ∨ ∃ te pe, ev = .iface te pe) :
    Calls Tryz.prog 3 #[.agg #[.int .i64 kd, .bool tr, .string tx, .bool neg, .slice A xs.length c, .slice A2 zs.length c2, .bool ineg, .slice A3 xs3.length c3, .slice A4 xs4.length c4], .int .u8 f, .bool great, .bool split] w fun e w' => e = .returned (.bool true) ∧ Below w.heap.size w w' := by
  obtain ⟨W0, hW0⟩ : ∃ W0, W0 = w.alloc (.cells #[.int .i64 kd, .bool tr, .string tx, .bool neg, .slice A xs.length c, .slice A2 zs.length c2, .bool ineg, .slice A3 xs3.length c3, .slice A4 xs4.length c4] 26) := ⟨_, rfl⟩
  have hB0 : Below w.heap.size w W0 := by rw [hW0]; exact below_alloc (Below.refl _ _) _
  have hn0 : W0.heap[w.heap.size]? = some (.cells #[.int .i64 kd, .bool tr, .string tx, .bool neg, .slice A xs.length c, .slice A2 zs.length c2, .bool ineg, .slice A3 xs3.length c3, .slice A4 xs4.length c4] 26 (0, 0)) := by rw [hW0]; exact heap_alloc_new _ _
  have H6 := Aside0.mk (laws_zzFits1.calls kd tr tx neg A c xs A2 c2 zs ineg A3 c3 xs3 A4 c4 xs4 true W0 (Kd.C_below hA hB0) hc (Kd.C_below hA2 hB0) hc2 (Kd.C_below hA3 hB0) hc3 (Kd.C_below hA4 hB0) hc4 hr)
  have HB0 := Aside0.mk hB0
  have HN0 := Aside0.mk hn0
  have HW0 := Lib.hid hW0
  have H7 := Lib.hid (fun (W : World) (hb : Below w.heap.size w W) => whole_small kd tr tx neg A c xs A2 zs.length c2 ineg A3 c3 xs3 A4 c4 xs4 W hd hl (Kd.C_below hA hb) hc (Kd.C_below hA3 hb) hc3 (Kd.C_below hA4 hb) hc4)
  have HE := Aside0.mk hev
  have H2 := Aside0.mk h2
  have HEV2 := Aside0.mk hev2
  have HL := Aside0.mk hl
  have i34 : ∀ W, (Instr.index 34 (.agg #[.int .i64 10, .int .i64 16, .int .i64 16, .int .i64 2, .int .i64 2, .int .i64 8, .int .i64 8, .int .i64 8]) (.int .i64 0)).run Tryz.prog W = .ok (.int .i64 10) W := fun _ => by as_aux_lemma => kernel_rfl
  have i35 : ∀ W, (Instr.index 35 (.agg #[.string ⟨#[]⟩, .string ⟨#[48, 120]⟩, .string ⟨#[48, 88]⟩, .string ⟨#[48, 98]⟩, .string ⟨#[48, 66]⟩, .string ⟨#[48, 111]⟩, .string ⟨#[48, 79]⟩, .string ⟨#[48]⟩]) (.int .i64 0)).run Tryz.prog W = .ok (.string ⟨#[]⟩) W := fun _ => by as_aux_lemma => kernel_rfl
  clear hW0 hB0 hn0 hr hA hc hA2 hc2 hA3 hc3 hA4 hc4 hd hl hev h2 hev2
  go_enter Tryz.func3, Tryz.ntmps3
  go_wp2_with fail
  rw [← HW0.out]
  refine H6.out.mono ?_
  rintro e w1 ⟨rfl, hb⟩
  have hbk := blk_below HN0.out hb
  have k0 : w1.cell? ⟨w.heap.size, 0, none⟩ = some (.int .i64 kd) := blk_cell hbk 0
  have k1 : w1.cell? ⟨w.heap.size, 1, none⟩ = some (.bool tr) := blk_cell hbk 1
  have k2 : w1.cell? ⟨w.heap.size, 2, none⟩ = some (.string tx) := blk_cell hbk 2
  have k3 : w1.cell? ⟨w.heap.size, 3, none⟩ = some (.bool neg) := blk_cell hbk 3
  have k4 : w1.cell? ⟨w.heap.size, 4, none⟩ = some (.slice A xs.length c) := blk_cell hbk 4
  have k5 : w1.cell? ⟨w.heap.size, 5, none⟩ = some (.slice A2 zs.length c2) := blk_cell hbk 5
  have k6 : w1.cell? ⟨w.heap.size, 6, none⟩ = some (.bool ineg) := blk_cell hbk 6
  have k7 : w1.cell? ⟨w.heap.size, 7, none⟩ = some (.slice A3 xs3.length c3) := blk_cell hbk 7
  have k8 : w1.cell? ⟨w.heap.size, 8, none⟩ = some (.slice A4 xs4.length c4) := blk_cell hbk 8
  have HB := Aside0.mk (below_step HB0.out hb)
  clear hb hbk
  go_wp2_with fail
  refine (H7.out w1 HB.out).mono ?_
  rintro e w2 ⟨n, A1, n1, c1, A5, n5, c5, ok, rfl, hb, himp⟩
  have HB2 := Aside0.mk (below_step HB.out hb)
  cases ok with
  | false =>
    clear himp hb
    go_wp2_with fail
    go_ret
    exact ⟨rfl, below_alloc HB2.out _⟩
  | true =>
    cases n with
    | true =>
      clear himp hb
      go_wp2_with fail
      go_ret
      exact ⟨rfl, below_alloc HB2.out _⟩
    | false =>
      obtain ⟨V, hxs, rfl, rfl, hV1, hV5⟩ := himp rfl rfl
      have hVl : (figs 18446744073709551616 V).length ≤ 10 := by rw [← hxs]; exact HL.out
      have hq : (figs 65536 V).length ≤ 40 := figs_quad V 10 hVl
      obtain ⟨kk, u, t, hu, ht, hft⟩ := und_text 10 V great split (by decide) (by decide) hVl
      obtain ⟨b9, hb9⟩ : ∃ b9, b9 = w2.heap.size := ⟨_, rfl⟩
      obtain ⟨W2, hW2⟩ : ∃ W2, W2 = w2.alloc (.cells #[.bool false, .slice A1 (figs 65536 V).length c1, .slice A5 1 c5] 31) := ⟨_, rfl⟩
      have hLw : Lw w b9 A1 (figs 65536 V).length c1 A5 c5 V W2 := by
        have hb3 := below_alloc (Below.refl w2.heap.size w2) (.cells #[.bool false, .slice A1 (figs 65536 V).length c1, .slice A5 1 c5] 31)
        refine ⟨by rw [hW2]; exact below_alloc HB2.out _, by rw [hb9]; exact HB2.out.size, by rw [hW2, hb9]; exact heap_alloc_new w2 _, ?_, ?_⟩
        · rw [hW2]; exact Kd.V_below (Kd.V_mono hV1 (fun k hk => Nat.le_trans HB.out.size hk)) hb3
        · rw [hW2]; exact Kd.V_below (Kd.V_mono hV5 (fun k hk => Nat.le_trans HB.out.size hk)) hb3
      have HW2 := Lib.hid hW2
      have HB9 := Lib.hid hb9
      have HU : Aside0 (spec_InBase.f kk (figs 65536 V) 10 great = some u) := Aside0.mk hu
      have HT := Aside0.mk ht
      have HFT := Aside0.mk hft
      have HQ := Aside0.mk hq
      have HVL := Aside0.mk hVl
      have hc0 : W2.cell? ⟨b9, 0, none⟩ = some (.bool false) := blk_cell hLw.blk 0
      have hc1 : W2.cell? ⟨b9, 1, none⟩ = some (.slice A1 (figs 65536 V).length c1) := blk_cell hLw.blk 1
      have hc2 : W2.cell? ⟨b9, 2, none⟩ = some (.slice A5 1 c5) := blk_cell hLw.blk 2
      have hts : t.size ≤ 1000 := hft.size
      have hsz : (⟨#[]⟩ : ByteArray).size + t.size ≤ 9223372036854775807 := by
        have e : (⟨#[]⟩ : ByteArray).size = 0 := rfl
        omega
      have hsz2 : 0 + t.size ≤ 9223372036854775807 := by omega
      clear himp hb hxs hV1 hV5 hVl hq hu ht hft hb9 hW2
      go_upto_region 4 with (fail)
      rw [← HW2.out, ← HB9.out]
      go_wp2_with fail
      refine wp_region_held_drew (S := (fun w' => w'.cell? ⟨b9, 0, none⟩ = some (.bool false) ∧ w'.cell? ⟨b9, 1, none⟩ = some (.slice A1 (figs 65536 V).length c1) ∧ w'.cell? ⟨b9, 2, none⟩ = some (.slice A5 1 c5) ∧ Lw w b9 A1 (figs 65536 V).length c1 A5 c5 V w')) (by kernel_rfl) ?_ (fun hHeld => ?_)
      · exact Lw.cells (Lw.drew hLw)
      refine wpAnyH_take (i := 0) (v := ?_) rfl (by kernel_rfl) (by kernel_rfl) (by kernel_rfl) (fun _ _ _ h => h) (Or.inl ⟨by rfl, ?_⟩) (by assumption) ?_
      rotate_left
      · intro w hSw; (try dsimp only at hSw); go_simp; first | done | with_reducible rfl
      try simp only [Act.put, List.setIfInBounds_toArray, List.set_cons_zero, List.set_cons_succ]
      refine wpAnyH_take (i := 1) (v := ?_) rfl (by kernel_rfl) (by kernel_rfl) (by kernel_rfl) (fun _ _ _ h => h) (Or.inl ⟨by rfl, ?_⟩) (by assumption) ?_
      rotate_left
      · intro w hSw; (try dsimp only at hSw); go_simp; first | done | with_reducible rfl
      try simp only [Act.put, List.setIfInBounds_toArray, List.set_cons_zero, List.set_cons_succ]
      refine wpAnyH_take (i := 2) (v := ?_) rfl (by kernel_rfl) (by kernel_rfl) (by kernel_rfl) (fun _ _ _ h => h) (Or.inl ⟨by rfl, ?_⟩) (by assumption) ?_
      rotate_left
      · intro w hSw; (try dsimp only at hSw); go_simp; first | done | with_reducible rfl
      try simp only [Act.put, List.setIfInBounds_toArray, List.set_cons_zero, List.set_cons_succ]
      refine wpAnyH_take (i := 3) (v := ?_) rfl (by kernel_rfl) (by kernel_rfl) (by kernel_rfl) (fun _ _ _ h => h) (Or.inl ⟨by rfl, ?_⟩) (by assumption) ?_
      rotate_left
      · intro w hSw; (try dsimp only at hSw); go_simp; first | done | with_reducible rfl
      try simp only [Act.put, List.setIfInBounds_toArray, List.set_cons_zero, List.set_cons_succ]
      refine wpAnyH_take (i := 4) (v := ?_) rfl (by kernel_rfl) (by kernel_rfl) (by kernel_rfl) (fun _ _ _ h => h) (Or.inl ⟨by rfl, ?_⟩) (by assumption) ?_
      rotate_left
      · intro w hSw; (try dsimp only at hSw); go_simp; first | done | with_reducible rfl
      try simp only [Act.put, List.setIfInBounds_toArray, List.set_cons_zero, List.set_cons_succ]
      refine wpAnyH_take (i := 5) (v := ?_) rfl (by kernel_rfl) (by kernel_rfl) (by kernel_rfl) (fun _ _ _ h => h) (Or.inl ⟨by rfl, ?_⟩) (by assumption) ?_
      rotate_left
      · intro w hSw; (try dsimp only at hSw); go_simp; first | done | with_reducible rfl
      try simp only [Act.put, List.setIfInBounds_toArray, List.set_cons_zero, List.set_cons_succ]
      refine wpAnyH_take (i := 6) (v := ?_) rfl (by kernel_rfl) (by kernel_rfl) (by kernel_rfl) (fun _ _ _ h => h) (Or.inl ⟨by rfl, ?_⟩) (by assumption) ?_
      rotate_left
      · intro w hSw; (try dsimp only at hSw); go_simp; first | done | with_reducible rfl
      try simp only [Act.put, List.setIfInBounds_toArray, List.set_cons_zero, List.set_cons_succ]
      refine wpAnyH_take (i := 8) (v := ?_) rfl (by kernel_rfl) (by kernel_rfl) (by kernel_rfl) (fun _ _ _ h => h) (Or.inl ⟨by rfl, ?_⟩) (by assumption) ?_
      rotate_left
      · intro w hSw; (try dsimp only at hSw); go_simp; first | done | with_reducible rfl
      try simp only [Act.put, List.setIfInBounds_toArray, List.set_cons_zero, List.set_cons_succ]
      refine wpAnyH_ready (rs := [7]) (by kernel_rfl) (by simp) ?_
      refine AllReadyH.cons rfl (fun K hK => ?_) AllReadyH.nil
      go_simp
      refine (spec_InBase.calls kk (fun k => w.heap.size ≤ k) A1 c1 (figs 65536 V) _ great u _ ?_ HU.out).mono ?_
      · go_split_ands; exact Lw.dig (by assumption)
      rintro e w5 ⟨rfl, hbB⟩
      go_wp2_with fail
      refine hK.out _ _ ?_ (fun hHeld2 => ?_)
      · (try dsimp only); go_split_ands; exact Lw.cells (Lw.next (by assumption) hbB)
      clear hK K hHeld
      try simp only [Act.put, List.setIfInBounds_toArray, List.set_cons_zero, List.set_cons_succ]
      refine wpAnyH_ready (rs := [9]) (by kernel_rfl) (by simp) ?_
      refine AllReadyH.cons rfl (fun K hK => ?_) AllReadyH.nil
      go_simp
      refine (laws_underscored.calls u split t _ HT.out).mono ?_
      rintro e w6 ⟨rfl, hbU0⟩
      have hbU := Drawn0.below hbU0
      go_wp2_with fail
      refine hK.out _ _ ?_ (fun hHeld3 => ?_)
      · (try dsimp only); go_split_ands; exact Lw.cells (Lw.next (by assumption) hbU)
      clear hK K hHeld2
      try simp only [Act.put, List.setIfInBounds_toArray, List.set_cons_zero, List.set_cons_succ]
      refine wpAnyH_ready (rs := [10]) (by kernel_rfl) (by simp) ?_
      refine AllReadyH.cons rfl (fun K hK => ?_) AllReadyH.nil
      go_simp
      go_wp2_with fail
      refine hK.out _ _ ?_ (fun hHeld4 => ?_)
      · (try dsimp only); go_split_ands; exact Lw.cells (by assumption)
      clear hK K hHeld3
      try simp only [Act.put, List.setIfInBounds_toArray, List.set_cons_zero, List.set_cons_succ]
      refine wpAnyH_take (i := 11) (oi := ⟨some 13, _, _, _, _, _⟩) (v := ?_) rfl (by kernel_rfl) (by kernel_rfl) (by kernel_rfl) (fun _ _ _ h => h) (Or.inl ⟨by rfl, ?_⟩) (by assumption) ?_
      rotate_left
      · intro w hSw; (try dsimp only at hSw); go_simp; first | done | with_reducible rfl
      try simp only [Act.put, List.setIfInBounds_toArray, List.set_cons_zero, List.set_cons_succ]
      refine wpAnyH_done (by kernel_rfl) ?_ _
      go_wp2_with fail
      refine wp_region_held_drew (S := (fun w' => w'.cell? ⟨b9, 0, none⟩ = some (.bool false) ∧ w'.cell? ⟨b9, 1, none⟩ = some (.slice A1 (figs 65536 V).length c1) ∧ w'.cell? ⟨b9, 2, none⟩ = some (.slice A5 1 c5) ∧ Lw w b9 A1 (figs 65536 V).length c1 A5 c5 V w')) (by kernel_rfl) ?_ (fun hHeld => ?_)
      · (try dsimp only); go_split_ands; exact Lw.cells (Lw.drew (by assumption))
      clear hHeld4
      refine wpAnyH_take (i := 0) (v := ?_) rfl (by kernel_rfl) (by kernel_rfl) (by kernel_rfl) (fun _ _ _ h => h) (Or.inl ⟨by rfl, ?_⟩) (by assumption) ?_
      rotate_left
      · intro w hSw; (try dsimp only at hSw); go_simp; first | done | with_reducible rfl
      try simp only [Act.put, List.setIfInBounds_toArray, List.set_cons_zero, List.set_cons_succ]
      refine wpAnyH_take (i := 2) (v := ?_) rfl (by kernel_rfl) (by kernel_rfl) (by kernel_rfl) (fun _ _ _ h => h) (Or.inl ⟨by rfl, ?_⟩) (by assumption) ?_
      rotate_left
      · intro w hSw; (try dsimp only at hSw); go_simp; first | done | with_reducible rfl
      try simp only [Act.put, List.setIfInBounds_toArray, List.set_cons_zero, List.set_cons_succ]
      refine wpAnyH_ready (rs := [1]) (by kernel_rfl) (by simp) ?_
      refine AllReadyH.cons rfl (fun K hK => ?_) AllReadyH.nil
      go_simp
      refine (lit_int (form_10 HFT.out) (by have := HVL.out; omega) pa ev _ ?_ ?_ HEV2.out).mono ?_
      · go_split_ands; exact Eof.below HE.out (Lw.below (by assumption)) (World.block_lt_of_cell? _ _ HE.out)
      · go_split_ands; exact (Below.cell (Lw.below (by assumption)) (World.block_lt_of_cell? _ _ H2.out)).trans H2.out
      rintro e w7 ⟨A7, c7, rfl, hc7, hC7, hb7⟩
      have HC7 := Aside0.mk (And.intro hc7 hC7)
      clear hc7 hC7
      go_wp2_with fail
      refine hK.out _ _ ?_ (fun hHeld5 => ?_)
      · (try dsimp only); go_split_ands; exact Lw.cells (Lw.next (by assumption) hb7)
      clear hK K hHeld
      try simp only [Act.put, List.setIfInBounds_toArray, List.set_cons_zero, List.set_cons_succ]
      refine wpAnyH_ready (rs := [3]) (by kernel_rfl) (by simp) ?_
      refine AllReadyH.cons rfl (fun K hK => ?_) AllReadyH.nil
      go_simp
      refine (isInt_big V HVL.out A7 c7 A1 c1 A5 c5 _ HC7.out.1 HC7.out.2 ?_ ?_ ?_ ?_ HQ.out).mono ?_
      · go_split_ands; exact (Kd.V_reads' (Lw.dig (by assumption))).2.2
      · go_split_ands; exact (Kd.V_reads' (Lw.dig (by assumption))).2.1
      · go_split_ands; exact (Kd.V_reads' (Lw.one (by assumption))).2.2
      · go_split_ands; exact (Kd.V_reads' (Lw.one (by assumption))).2.1
      rintro e w8 ⟨rfl, hb8⟩
      go_wp2_with fail
      refine hK.out _ _ ?_ (fun hHeld6 => ?_)
      · (try dsimp only); go_split_ands; exact Lw.cells (Lw.next (by assumption) hb8)
      clear hK K hHeld5
      try simp only [Act.put, List.setIfInBounds_toArray, List.set_cons_zero, List.set_cons_succ]
      refine wpAnyH_take (i := 4) (oi := ⟨some 8, _, _, _, _, _⟩) (v := ?_) rfl (by kernel_rfl) (by kernel_rfl) (by kernel_rfl) (fun _ _ _ h => h) (Or.inl ⟨by rfl, ?_⟩) (by assumption) ?_
      rotate_left
      · intro w hSw; (try dsimp only at hSw); go_simp; first | done | with_reducible rfl
      try simp only [Act.put, List.setIfInBounds_toArray, List.set_cons_zero, List.set_cons_succ]
      refine wpAnyH_done (by kernel_rfl) ?_ _
      go_wp2_with fail
      go_ret
      go_split_ands
      exact ⟨rfl, Lw.below (by assumption)⟩
end Go.Proofs.YtgpoplfgngiilaaGreatDoor

namespace Go.Proofs.YtgpoplfgngiilaaGreatDoor
open Go.RowKit Go.Proofs.YtgpoplfgngiilaaGreatDoorW.PrintWords PAll Pl

set_option maxHeartbeats 4000000 in
set_option maxRecDepth 100000 in
theorem int_form1 (kd : Int) (tr : Bool) (tx : ByteArray) (neg : Bool) (A : Option Addr) (c : Nat) (xs : List Int) (A2 : Option Addr) (c2 : Nat) (zs : List Int) (ineg : Bool) (A3 : Option Addr) (c3 : Nat) (xs3 : List Int) (A4 : Option Addr) (c4 : Nat) (xs4 : List Int) (f : Int) (great split : Bool) (w : World) (hA : Kd.C (Kd.int .u64) w A xs.length xs) (hc : xs.length ≤ c) (hA2 : Kd.C (Kd.int .u64) w A2 zs.length zs) (hc2 : zs.length ≤ c2) (hA3 : Kd.C (Kd.int .u64) w A3 xs3.length xs3) (hc3 : xs3.length ≤ c3) (hA4 : Kd.C (Kd.int .u64) w A4 xs4.length xs4) (hc4 : xs4.length ≤ c4) (hd : Dg (18446744073709551616 : Nat) xs) (hl : xs.length ≤ 10) (hr : laws_zzFits1.f kd tr tx neg xs zs ineg xs3 xs4 = some true) (hf0 : 0 ≤ f) (hf1 : f < 256) (hf : f % 8 = 1)
    (pa : Addr) (ev : Value) (hev : Eof w pa) (h2 : w.cell? ⟨2, 0, none⟩ = some ev) (hev2 : ev = .nilIface ∨ ∃ te pe, ev = .iface te pe) :
    Calls Tryz.prog 3 #[.agg #[.int .i64 kd, .bool tr, .string tx, .bool neg, .slice A xs.length c, .slice A2 zs.length c2, .bool ineg, .slice A3 xs3.length c3, .slice A4 xs4.length c4], .int .u8 f, .bool great, .bool split] w fun e w' => e = .returned (.bool true) ∧ Below w.heap.size w w' := by
  obtain ⟨W0, hW0⟩ : ∃ W0, W0 = w.alloc (.cells #[.int .i64 kd, .bool tr, .string tx, .bool neg, .slice A xs.length c, .slice A2 zs.length c2, .bool ineg, .slice A3 xs3.length c3, .slice A4 xs4.length c4] 26) := ⟨_, rfl⟩
  have hB0 : Below w.heap.size w W0 := by rw [hW0]; exact below_alloc (Below.refl _ _) _
  have hn0 : W0.heap[w.heap.size]? = some (.cells #[.int .i64 kd, .bool tr, .string tx, .bool neg, .slice A xs.length c, .slice A2 zs.length c2, .bool ineg, .slice A3 xs3.length c3, .slice A4 xs4.length c4] 26 (0, 0)) := by rw [hW0]; exact heap_alloc_new _ _
  have H6 := Aside0.mk (laws_zzFits1.calls kd tr tx neg A c xs A2 c2 zs ineg A3 c3 xs3 A4 c4 xs4 true W0 (Kd.C_below hA hB0) hc (Kd.C_below hA2 hB0) hc2 (Kd.C_below hA3 hB0) hc3 (Kd.C_below hA4 hB0) hc4 hr)
  have HB0 := Aside0.mk hB0
  have HN0 := Aside0.mk hn0
  have HW0 := Lib.hid hW0
  have H7 := Lib.hid (fun (W : World) (hb : Below w.heap.size w W) => whole_small kd tr tx neg A c xs A2 zs.length c2 ineg A3 c3 xs3 A4 c4 xs4 W hd hl (Kd.C_below hA hb) hc (Kd.C_below hA3 hb) hc3 (Kd.C_below hA4 hb) hc4)
  have HE := Aside0.mk hev
  have H2 := Aside0.mk h2
  have HEV2 := Aside0.mk hev2
  have HL := Aside0.mk hl
  have i34 : ∀ W, (Instr.index 34 (.agg #[.int .i64 10, .int .i64 16, .int .i64 16, .int .i64 2, .int .i64 2, .int .i64 8, .int .i64 8, .int .i64 8]) (.int .i64 1)).run Tryz.prog W = .ok (.int .i64 16) W := fun _ => by as_aux_lemma => kernel_rfl
  have i35 : ∀ W, (Instr.index 35 (.agg #[.string ⟨#[]⟩, .string ⟨#[48, 120]⟩, .string ⟨#[48, 88]⟩, .string ⟨#[48, 98]⟩, .string ⟨#[48, 66]⟩, .string ⟨#[48, 111]⟩, .string ⟨#[48, 79]⟩, .string ⟨#[48]⟩]) (.int .i64 1)).run Tryz.prog W = .ok (.string ⟨#[48, 120]⟩) W := fun _ => by as_aux_lemma => kernel_rfl
  clear hW0 hB0 hn0 hr hA hc hA2 hc2 hA3 hc3 hA4 hc4 hd hl hev h2 hev2
  go_enter Tryz.func3, Tryz.ntmps3
  go_wp2_with fail
  rw [← HW0.out]
  refine H6.out.mono ?_
  rintro e w1 ⟨rfl, hb⟩
  have hbk := blk_below HN0.out hb
  have k0 : w1.cell? ⟨w.heap.size, 0, none⟩ = some (.int .i64 kd) := blk_cell hbk 0
  have k1 : w1.cell? ⟨w.heap.size, 1, none⟩ = some (.bool tr) := blk_cell hbk 1
  have k2 : w1.cell? ⟨w.heap.size, 2, none⟩ = some (.string tx) := blk_cell hbk 2
  have k3 : w1.cell? ⟨w.heap.size, 3, none⟩ = some (.bool neg) := blk_cell hbk 3
  have k4 : w1.cell? ⟨w.heap.size, 4, none⟩ = some (.slice A xs.length c) := blk_cell hbk 4
  have k5 : w1.cell? ⟨w.heap.size, 5, none⟩ = some (.slice A2 zs.length c2) := blk_cell hbk 5
  have k6 : w1.cell? ⟨w.heap.size, 6, none⟩ = some (.bool ineg) := blk_cell hbk 6
  have k7 : w1.cell? ⟨w.heap.size, 7, none⟩ = some (.slice A3 xs3.length c3) := blk_cell hbk 7
  have k8 : w1.cell? ⟨w.heap.size, 8, none⟩ = some (.slice A4 xs4.length c4) := blk_cell hbk 8
  have HB := Aside0.mk (below_step HB0.out hb)
  clear hb hbk
  go_wp2_with fail
  refine (H7.out w1 HB.out).mono ?_
  rintro e w2 ⟨n, A1, n1, c1, A5, n5, c5, ok, rfl, hb, himp⟩
  have HB2 := Aside0.mk (below_step HB.out hb)
  cases ok with
  | false =>
    clear himp hb
    go_wp2_with fail
    go_ret
    exact ⟨rfl, below_alloc HB2.out _⟩
  | true =>
    cases n with
    | true =>
      clear himp hb
      go_wp2_with fail
      go_ret
      exact ⟨rfl, below_alloc HB2.out _⟩
    | false =>
      obtain ⟨V, hxs, rfl, rfl, hV1, hV5⟩ := himp rfl rfl
      have hVl : (figs 18446744073709551616 V).length ≤ 10 := by rw [← hxs]; exact HL.out
      have hq : (figs 65536 V).length ≤ 40 := figs_quad V 10 hVl
      obtain ⟨kk, u, t, hu, ht, hft⟩ := und_text 16 V great split (by decide) (by decide) hVl
      obtain ⟨b9, hb9⟩ : ∃ b9, b9 = w2.heap.size := ⟨_, rfl⟩
      obtain ⟨W2, hW2⟩ : ∃ W2, W2 = w2.alloc (.cells #[.bool false, .slice A1 (figs 65536 V).length c1, .slice A5 1 c5] 31) := ⟨_, rfl⟩
      have hLw : Lw w b9 A1 (figs 65536 V).length c1 A5 c5 V W2 := by
        have hb3 := below_alloc (Below.refl w2.heap.size w2) (.cells #[.bool false, .slice A1 (figs 65536 V).length c1, .slice A5 1 c5] 31)
        refine ⟨by rw [hW2]; exact below_alloc HB2.out _, by rw [hb9]; exact HB2.out.size, by rw [hW2, hb9]; exact heap_alloc_new w2 _, ?_, ?_⟩
        · rw [hW2]; exact Kd.V_below (Kd.V_mono hV1 (fun k hk => Nat.le_trans HB.out.size hk)) hb3
        · rw [hW2]; exact Kd.V_below (Kd.V_mono hV5 (fun k hk => Nat.le_trans HB.out.size hk)) hb3
      have HW2 := Lib.hid hW2
      have HB9 := Lib.hid hb9
      have HU : Aside0 (spec_InBase.f kk (figs 65536 V) 16 great = some u) := Aside0.mk hu
      have HT := Aside0.mk ht
      have HFT := Aside0.mk hft
      have HQ := Aside0.mk hq
      have HVL := Aside0.mk hVl
      have hc0 : W2.cell? ⟨b9, 0, none⟩ = some (.bool false) := blk_cell hLw.blk 0
      have hc1 : W2.cell? ⟨b9, 1, none⟩ = some (.slice A1 (figs 65536 V).length c1) := blk_cell hLw.blk 1
      have hc2 : W2.cell? ⟨b9, 2, none⟩ = some (.slice A5 1 c5) := blk_cell hLw.blk 2
      have hts : t.size ≤ 1000 := hft.size
      have hsz : (⟨#[48, 120]⟩ : ByteArray).size + t.size ≤ 9223372036854775807 := by
        have e : (⟨#[48, 120]⟩ : ByteArray).size = 2 := rfl
        omega
      have hsz2 : 2 + t.size ≤ 9223372036854775807 := by omega
      clear himp hb hxs hV1 hV5 hVl hq hu ht hft hb9 hW2
      go_upto_region 4 with (fail)
      rw [← HW2.out, ← HB9.out]
      go_wp2_with fail
      refine wp_region_held_drew (S := (fun w' => w'.cell? ⟨b9, 0, none⟩ = some (.bool false) ∧ w'.cell? ⟨b9, 1, none⟩ = some (.slice A1 (figs 65536 V).length c1) ∧ w'.cell? ⟨b9, 2, none⟩ = some (.slice A5 1 c5) ∧ Lw w b9 A1 (figs 65536 V).length c1 A5 c5 V w')) (by kernel_rfl) ?_ (fun hHeld => ?_)
      · exact Lw.cells (Lw.drew hLw)
      refine wpAnyH_take (i := 0) (v := ?_) rfl (by kernel_rfl) (by kernel_rfl) (by kernel_rfl) (fun _ _ _ h => h) (Or.inl ⟨by rfl, ?_⟩) (by assumption) ?_
      rotate_left
      · intro w hSw; (try dsimp only at hSw); go_simp; first | done | with_reducible rfl
      try simp only [Act.put, List.setIfInBounds_toArray, List.set_cons_zero, List.set_cons_succ]
      refine wpAnyH_take (i := 1) (v := ?_) rfl (by kernel_rfl) (by kernel_rfl) (by kernel_rfl) (fun _ _ _ h => h) (Or.inl ⟨by rfl, ?_⟩) (by assumption) ?_
      rotate_left
      · intro w hSw; (try dsimp only at hSw); go_simp; first | done | with_reducible rfl
      try simp only [Act.put, List.setIfInBounds_toArray, List.set_cons_zero, List.set_cons_succ]
      refine wpAnyH_take (i := 2) (v := ?_) rfl (by kernel_rfl) (by kernel_rfl) (by kernel_rfl) (fun _ _ _ h => h) (Or.inl ⟨by rfl, ?_⟩) (by assumption) ?_
      rotate_left
      · intro w hSw; (try dsimp only at hSw); go_simp; first | done | with_reducible rfl
      try simp only [Act.put, List.setIfInBounds_toArray, List.set_cons_zero, List.set_cons_succ]
      refine wpAnyH_take (i := 3) (v := ?_) rfl (by kernel_rfl) (by kernel_rfl) (by kernel_rfl) (fun _ _ _ h => h) (Or.inl ⟨by rfl, ?_⟩) (by assumption) ?_
      rotate_left
      · intro w hSw; (try dsimp only at hSw); go_simp; first | done | with_reducible rfl
      try simp only [Act.put, List.setIfInBounds_toArray, List.set_cons_zero, List.set_cons_succ]
      refine wpAnyH_take (i := 4) (v := ?_) rfl (by kernel_rfl) (by kernel_rfl) (by kernel_rfl) (fun _ _ _ h => h) (Or.inl ⟨by rfl, ?_⟩) (by assumption) ?_
      rotate_left
      · intro w hSw; (try dsimp only at hSw); go_simp; first | done | with_reducible rfl
      try simp only [Act.put, List.setIfInBounds_toArray, List.set_cons_zero, List.set_cons_succ]
      refine wpAnyH_take (i := 5) (v := ?_) rfl (by kernel_rfl) (by kernel_rfl) (by kernel_rfl) (fun _ _ _ h => h) (Or.inl ⟨by rfl, ?_⟩) (by assumption) ?_
      rotate_left
      · intro w hSw; (try dsimp only at hSw); go_simp; first | done | with_reducible rfl
      try simp only [Act.put, List.setIfInBounds_toArray, List.set_cons_zero, List.set_cons_succ]
      refine wpAnyH_take (i := 6) (v := ?_) rfl (by kernel_rfl) (by kernel_rfl) (by kernel_rfl) (fun _ _ _ h => h) (Or.inl ⟨by rfl, ?_⟩) (by assumption) ?_
      rotate_left
      · intro w hSw; (try dsimp only at hSw); go_simp; first | done | with_reducible rfl
      try simp only [Act.put, List.setIfInBounds_toArray, List.set_cons_zero, List.set_cons_succ]
      refine wpAnyH_take (i := 8) (v := ?_) rfl (by kernel_rfl) (by kernel_rfl) (by kernel_rfl) (fun _ _ _ h => h) (Or.inl ⟨by rfl, ?_⟩) (by assumption) ?_
      rotate_left
      · intro w hSw; (try dsimp only at hSw); go_simp; first | done | with_reducible rfl
      try simp only [Act.put, List.setIfInBounds_toArray, List.set_cons_zero, List.set_cons_succ]
      refine wpAnyH_ready (rs := [7]) (by kernel_rfl) (by simp) ?_
      refine AllReadyH.cons rfl (fun K hK => ?_) AllReadyH.nil
      go_simp
      refine (spec_InBase.calls kk (fun k => w.heap.size ≤ k) A1 c1 (figs 65536 V) _ great u _ ?_ HU.out).mono ?_
      · go_split_ands; exact Lw.dig (by assumption)
      rintro e w5 ⟨rfl, hbB⟩
      go_wp2_with fail
      refine hK.out _ _ ?_ (fun hHeld2 => ?_)
      · (try dsimp only); go_split_ands; exact Lw.cells (Lw.next (by assumption) hbB)
      clear hK K hHeld
      try simp only [Act.put, List.setIfInBounds_toArray, List.set_cons_zero, List.set_cons_succ]
      refine wpAnyH_ready (rs := [9]) (by kernel_rfl) (by simp) ?_
      refine AllReadyH.cons rfl (fun K hK => ?_) AllReadyH.nil
      go_simp
      refine (laws_underscored.calls u split t _ HT.out).mono ?_
      rintro e w6 ⟨rfl, hbU0⟩
      have hbU := Drawn0.below hbU0
      go_wp2_with fail
      refine hK.out _ _ ?_ (fun hHeld3 => ?_)
      · (try dsimp only); go_split_ands; exact Lw.cells (Lw.next (by assumption) hbU)
      clear hK K hHeld2
      try simp only [Act.put, List.setIfInBounds_toArray, List.set_cons_zero, List.set_cons_succ]
      refine wpAnyH_ready (rs := [10]) (by kernel_rfl) (by simp) ?_
      refine AllReadyH.cons rfl (fun K hK => ?_) AllReadyH.nil
      go_simp
      go_wp2_with fail
      refine hK.out _ _ ?_ (fun hHeld4 => ?_)
      · (try dsimp only); go_split_ands; exact Lw.cells (by assumption)
      clear hK K hHeld3
      try simp only [Act.put, List.setIfInBounds_toArray, List.set_cons_zero, List.set_cons_succ]
      refine wpAnyH_take (i := 11) (oi := ⟨some 13, _, _, _, _, _⟩) (v := ?_) rfl (by kernel_rfl) (by kernel_rfl) (by kernel_rfl) (fun _ _ _ h => h) (Or.inl ⟨by rfl, ?_⟩) (by assumption) ?_
      rotate_left
      · intro w hSw; (try dsimp only at hSw); go_simp; first | done | with_reducible rfl
      try simp only [Act.put, List.setIfInBounds_toArray, List.set_cons_zero, List.set_cons_succ]
      refine wpAnyH_done (by kernel_rfl) ?_ _
      go_wp2_with fail
      refine wp_region_held_drew (S := (fun w' => w'.cell? ⟨b9, 0, none⟩ = some (.bool false) ∧ w'.cell? ⟨b9, 1, none⟩ = some (.slice A1 (figs 65536 V).length c1) ∧ w'.cell? ⟨b9, 2, none⟩ = some (.slice A5 1 c5) ∧ Lw w b9 A1 (figs 65536 V).length c1 A5 c5 V w')) (by kernel_rfl) ?_ (fun hHeld => ?_)
      · (try dsimp only); go_split_ands; exact Lw.cells (Lw.drew (by assumption))
      clear hHeld4
      refine wpAnyH_take (i := 0) (v := ?_) rfl (by kernel_rfl) (by kernel_rfl) (by kernel_rfl) (fun _ _ _ h => h) (Or.inl ⟨by rfl, ?_⟩) (by assumption) ?_
      rotate_left
      · intro w hSw; (try dsimp only at hSw); go_simp; first | done | with_reducible rfl
      try simp only [Act.put, List.setIfInBounds_toArray, List.set_cons_zero, List.set_cons_succ]
      refine wpAnyH_take (i := 2) (v := ?_) rfl (by kernel_rfl) (by kernel_rfl) (by kernel_rfl) (fun _ _ _ h => h) (Or.inl ⟨by rfl, ?_⟩) (by assumption) ?_
      rotate_left
      · intro w hSw; (try dsimp only at hSw); go_simp; first | done | with_reducible rfl
      try simp only [Act.put, List.setIfInBounds_toArray, List.set_cons_zero, List.set_cons_succ]
      refine wpAnyH_ready (rs := [1]) (by kernel_rfl) (by simp) ?_
      refine AllReadyH.cons rfl (fun K hK => ?_) AllReadyH.nil
      go_simp
      refine (lit_int (form_x 120 (.inl rfl) HFT.out) (by have := HVL.out; omega) pa ev _ ?_ ?_ HEV2.out).mono ?_
      · go_split_ands; exact Eof.below HE.out (Lw.below (by assumption)) (World.block_lt_of_cell? _ _ HE.out)
      · go_split_ands; exact (Below.cell (Lw.below (by assumption)) (World.block_lt_of_cell? _ _ H2.out)).trans H2.out
      rintro e w7 ⟨A7, c7, rfl, hc7, hC7, hb7⟩
      have HC7 := Aside0.mk (And.intro hc7 hC7)
      clear hc7 hC7
      go_wp2_with fail
      refine hK.out _ _ ?_ (fun hHeld5 => ?_)
      · (try dsimp only); go_split_ands; exact Lw.cells (Lw.next (by assumption) hb7)
      clear hK K hHeld
      try simp only [Act.put, List.setIfInBounds_toArray, List.set_cons_zero, List.set_cons_succ]
      refine wpAnyH_ready (rs := [3]) (by kernel_rfl) (by simp) ?_
      refine AllReadyH.cons rfl (fun K hK => ?_) AllReadyH.nil
      go_simp
      refine (isInt_big V HVL.out A7 c7 A1 c1 A5 c5 _ HC7.out.1 HC7.out.2 ?_ ?_ ?_ ?_ HQ.out).mono ?_
      · go_split_ands; exact (Kd.V_reads' (Lw.dig (by assumption))).2.2
      · go_split_ands; exact (Kd.V_reads' (Lw.dig (by assumption))).2.1
      · go_split_ands; exact (Kd.V_reads' (Lw.one (by assumption))).2.2
      · go_split_ands; exact (Kd.V_reads' (Lw.one (by assumption))).2.1
      rintro e w8 ⟨rfl, hb8⟩
      go_wp2_with fail
      refine hK.out _ _ ?_ (fun hHeld6 => ?_)
      · (try dsimp only); go_split_ands; exact Lw.cells (Lw.next (by assumption) hb8)
      clear hK K hHeld5
      try simp only [Act.put, List.setIfInBounds_toArray, List.set_cons_zero, List.set_cons_succ]
      refine wpAnyH_take (i := 4) (oi := ⟨some 8, _, _, _, _, _⟩) (v := ?_) rfl (by kernel_rfl) (by kernel_rfl) (by kernel_rfl) (fun _ _ _ h => h) (Or.inl ⟨by rfl, ?_⟩) (by assumption) ?_
      rotate_left
      · intro w hSw; (try dsimp only at hSw); go_simp; first | done | with_reducible rfl
      try simp only [Act.put, List.setIfInBounds_toArray, List.set_cons_zero, List.set_cons_succ]
      refine wpAnyH_done (by kernel_rfl) ?_ _
      go_wp2_with fail
      go_ret
      go_split_ands
      exact ⟨rfl, Lw.below (by assumption)⟩
end Go.Proofs.YtgpoplfgngiilaaGreatDoor

namespace Go.Proofs.YtgpoplfgngiilaaGreatDoor
open Go.RowKit Go.Proofs.YtgpoplfgngiilaaGreatDoorW.PrintWords PAll Pl

set_option maxHeartbeats 4000000 in
set_option maxRecDepth 100000 in
theorem int_form2 (kd : Int) (tr : Bool) (tx : ByteArray) (neg : Bool) (A : Option Addr) (c : Nat) (xs : List Int) (A2 : Option Addr) (c2 : Nat) (zs : List Int) (ineg : Bool) (A3 : Option Addr) (c3 : Nat) (xs3 : List Int) (A4 : Option Addr) (c4 : Nat) (xs4 : List Int) (f : Int) (great split : Bool) (w : World) (hA : Kd.C (Kd.int .u64) w A xs.length xs) (hc : xs.length ≤ c) (hA2 : Kd.C (Kd.int .u64) w A2 zs.length zs) (hc2 : zs.length ≤ c2) (hA3 : Kd.C (Kd.int .u64) w A3 xs3.length xs3) (hc3 : xs3.length ≤ c3) (hA4 : Kd.C (Kd.int .u64) w A4 xs4.length xs4) (hc4 : xs4.length ≤ c4) (hd : Dg (18446744073709551616 : Nat) xs) (hl : xs.length ≤ 10) (hr : laws_zzFits1.f kd tr tx neg xs zs ineg xs3 xs4 = some true) (hf0 : 0 ≤ f) (hf1 : f < 256) (hf : f % 8 = 2)
    (pa : Addr) (ev : Value) (hev : Eof w pa) (h2 : w.cell? ⟨2, 0, none⟩ = some ev) (hev2 : ev = .nilIface ∨ ∃ te pe, ev = .iface te pe) :
    Calls Tryz.prog 3 #[.agg #[.int .i64 kd, .bool tr, .string tx, .bool neg, .slice A xs.length c, .slice A2 zs.length c2, .bool ineg, .slice A3 xs3.length c3, .slice A4 xs4.length c4], .int .u8 f, .bool great, .bool split] w fun e w' => e = .returned (.bool true) ∧ Below w.heap.size w w' := by
  obtain ⟨W0, hW0⟩ : ∃ W0, W0 = w.alloc (.cells #[.int .i64 kd, .bool tr, .string tx, .bool neg, .slice A xs.length c, .slice A2 zs.length c2, .bool ineg, .slice A3 xs3.length c3, .slice A4 xs4.length c4] 26) := ⟨_, rfl⟩
  have hB0 : Below w.heap.size w W0 := by rw [hW0]; exact below_alloc (Below.refl _ _) _
  have hn0 : W0.heap[w.heap.size]? = some (.cells #[.int .i64 kd, .bool tr, .string tx, .bool neg, .slice A xs.length c, .slice A2 zs.length c2, .bool ineg, .slice A3 xs3.length c3, .slice A4 xs4.length c4] 26 (0, 0)) := by rw [hW0]; exact heap_alloc_new _ _
  have H6 := Aside0.mk (laws_zzFits1.calls kd tr tx neg A c xs A2 c2 zs ineg A3 c3 xs3 A4 c4 xs4 true W0 (Kd.C_below hA hB0) hc (Kd.C_below hA2 hB0) hc2 (Kd.C_below hA3 hB0) hc3 (Kd.C_below hA4 hB0) hc4 hr)
  have HB0 := Aside0.mk hB0
  have HN0 := Aside0.mk hn0
  have HW0 := Lib.hid hW0
  have H7 := Lib.hid (fun (W : World) (hb : Below w.heap.size w W) => whole_small kd tr tx neg A c xs A2 zs.length c2 ineg A3 c3 xs3 A4 c4 xs4 W hd hl (Kd.C_below hA hb) hc (Kd.C_below hA3 hb) hc3 (Kd.C_below hA4 hb) hc4)
  have HE := Aside0.mk hev
  have H2 := Aside0.mk h2
  have HEV2 := Aside0.mk hev2
  have HL := Aside0.mk hl
  have i34 : ∀ W, (Instr.index 34 (.agg #[.int .i64 10, .int .i64 16, .int .i64 16, .int .i64 2, .int .i64 2, .int .i64 8, .int .i64 8, .int .i64 8]) (.int .i64 2)).run Tryz.prog W = .ok (.int .i64 16) W := fun _ => by as_aux_lemma => kernel_rfl
  have i35 : ∀ W, (Instr.index 35 (.agg #[.string ⟨#[]⟩, .string ⟨#[48, 120]⟩, .string ⟨#[48, 88]⟩, .string ⟨#[48, 98]⟩, .string ⟨#[48, 66]⟩, .string ⟨#[48, 111]⟩, .string ⟨#[48, 79]⟩, .string ⟨#[48]⟩]) (.int .i64 2)).run Tryz.prog W = .ok (.string ⟨#[48, 88]⟩) W := fun _ => by as_aux_lemma => kernel_rfl
  clear hW0 hB0 hn0 hr hA hc hA2 hc2 hA3 hc3 hA4 hc4 hd hl hev h2 hev2
  go_enter Tryz.func3, Tryz.ntmps3
  go_wp2_with fail
  rw [← HW0.out]
  refine H6.out.mono ?_
  rintro e w1 ⟨rfl, hb⟩
  have hbk := blk_below HN0.out hb
  have k0 : w1.cell? ⟨w.heap.size, 0, none⟩ = some (.int .i64 kd) := blk_cell hbk 0
  have k1 : w1.cell? ⟨w.heap.size, 1, none⟩ = some (.bool tr) := blk_cell hbk 1
  have k2 : w1.cell? ⟨w.heap.size, 2, none⟩ = some (.string tx) := blk_cell hbk 2
  have k3 : w1.cell? ⟨w.heap.size, 3, none⟩ = some (.bool neg) := blk_cell hbk 3
  have k4 : w1.cell? ⟨w.heap.size, 4, none⟩ = some (.slice A xs.length c) := blk_cell hbk 4
  have k5 : w1.cell? ⟨w.heap.size, 5, none⟩ = some (.slice A2 zs.length c2) := blk_cell hbk 5
  have k6 : w1.cell? ⟨w.heap.size, 6, none⟩ = some (.bool ineg) := blk_cell hbk 6
  have k7 : w1.cell? ⟨w.heap.size, 7, none⟩ = some (.slice A3 xs3.length c3) := blk_cell hbk 7
  have k8 : w1.cell? ⟨w.heap.size, 8, none⟩ = some (.slice A4 xs4.length c4) := blk_cell hbk 8
  have HB := Aside0.mk (below_step HB0.out hb)
  clear hb hbk
  go_wp2_with fail
  refine (H7.out w1 HB.out).mono ?_
  rintro e w2 ⟨n, A1, n1, c1, A5, n5, c5, ok, rfl, hb, himp⟩
  have HB2 := Aside0.mk (below_step HB.out hb)
  cases ok with
  | false =>
    clear himp hb
    go_wp2_with fail
    go_ret
    exact ⟨rfl, below_alloc HB2.out _⟩
  | true =>
    cases n with
    | true =>
      clear himp hb
      go_wp2_with fail
      go_ret
      exact ⟨rfl, below_alloc HB2.out _⟩
    | false =>
      obtain ⟨V, hxs, rfl, rfl, hV1, hV5⟩ := himp rfl rfl
      have hVl : (figs 18446744073709551616 V).length ≤ 10 := by rw [← hxs]; exact HL.out
      have hq : (figs 65536 V).length ≤ 40 := figs_quad V 10 hVl
      obtain ⟨kk, u, t, hu, ht, hft⟩ := und_text 16 V great split (by decide) (by decide) hVl
      obtain ⟨b9, hb9⟩ : ∃ b9, b9 = w2.heap.size := ⟨_, rfl⟩
      obtain ⟨W2, hW2⟩ : ∃ W2, W2 = w2.alloc (.cells #[.bool false, .slice A1 (figs 65536 V).length c1, .slice A5 1 c5] 31) := ⟨_, rfl⟩
      have hLw : Lw w b9 A1 (figs 65536 V).length c1 A5 c5 V W2 := by
        have hb3 := below_alloc (Below.refl w2.heap.size w2) (.cells #[.bool false, .slice A1 (figs 65536 V).length c1, .slice A5 1 c5] 31)
        refine ⟨by rw [hW2]; exact below_alloc HB2.out _, by rw [hb9]; exact HB2.out.size, by rw [hW2, hb9]; exact heap_alloc_new w2 _, ?_, ?_⟩
        · rw [hW2]; exact Kd.V_below (Kd.V_mono hV1 (fun k hk => Nat.le_trans HB.out.size hk)) hb3
        · rw [hW2]; exact Kd.V_below (Kd.V_mono hV5 (fun k hk => Nat.le_trans HB.out.size hk)) hb3
      have HW2 := Lib.hid hW2
      have HB9 := Lib.hid hb9
      have HU : Aside0 (spec_InBase.f kk (figs 65536 V) 16 great = some u) := Aside0.mk hu
      have HT := Aside0.mk ht
      have HFT := Aside0.mk hft
      have HQ := Aside0.mk hq
      have HVL := Aside0.mk hVl
      have hc0 : W2.cell? ⟨b9, 0, none⟩ = some (.bool false) := blk_cell hLw.blk 0
      have hc1 : W2.cell? ⟨b9, 1, none⟩ = some (.slice A1 (figs 65536 V).length c1) := blk_cell hLw.blk 1
      have hc2 : W2.cell? ⟨b9, 2, none⟩ = some (.slice A5 1 c5) := blk_cell hLw.blk 2
      have hts : t.size ≤ 1000 := hft.size
      have hsz : (⟨#[48, 88]⟩ : ByteArray).size + t.size ≤ 9223372036854775807 := by
        have e : (⟨#[48, 88]⟩ : ByteArray).size = 2 := rfl
        omega
      have hsz2 : 2 + t.size ≤ 9223372036854775807 := by omega
      clear himp hb hxs hV1 hV5 hVl hq hu ht hft hb9 hW2
      go_upto_region 4 with (fail)
      rw [← HW2.out, ← HB9.out]
      go_wp2_with fail
      refine wp_region_held_drew (S := (fun w' => w'.cell? ⟨b9, 0, none⟩ = some (.bool false) ∧ w'.cell? ⟨b9, 1, none⟩ = some (.slice A1 (figs 65536 V).length c1) ∧ w'.cell? ⟨b9, 2, none⟩ = some (.slice A5 1 c5) ∧ Lw w b9 A1 (figs 65536 V).length c1 A5 c5 V w')) (by kernel_rfl) ?_ (fun hHeld => ?_)
      · exact Lw.cells (Lw.drew hLw)
      refine wpAnyH_take (i := 0) (v := ?_) rfl (by kernel_rfl) (by kernel_rfl) (by kernel_rfl) (fun _ _ _ h => h) (Or.inl ⟨by rfl, ?_⟩) (by assumption) ?_
      rotate_left
      · intro w hSw; (try dsimp only at hSw); go_simp; first | done | with_reducible rfl
      try simp only [Act.put, List.setIfInBounds_toArray, List.set_cons_zero, List.set_cons_succ]
      refine wpAnyH_take (i := 1) (v := ?_) rfl (by kernel_rfl) (by kernel_rfl) (by kernel_rfl) (fun _ _ _ h => h) (Or.inl ⟨by rfl, ?_⟩) (by assumption) ?_
      rotate_left
      · intro w hSw; (try dsimp only at hSw); go_simp; first | done | with_reducible rfl
      try simp only [Act.put, List.setIfInBounds_toArray, List.set_cons_zero, List.set_cons_succ]
      refine wpAnyH_take (i := 2) (v := ?_) rfl (by kernel_rfl) (by kernel_rfl) (by kernel_rfl) (fun _ _ _ h => h) (Or.inl ⟨by rfl, ?_⟩) (by assumption) ?_
      rotate_left
      · intro w hSw; (try dsimp only at hSw); go_simp; first | done | with_reducible rfl
      try simp only [Act.put, List.setIfInBounds_toArray, List.set_cons_zero, List.set_cons_succ]
      refine wpAnyH_take (i := 3) (v := ?_) rfl (by kernel_rfl) (by kernel_rfl) (by kernel_rfl) (fun _ _ _ h => h) (Or.inl ⟨by rfl, ?_⟩) (by assumption) ?_
      rotate_left
      · intro w hSw; (try dsimp only at hSw); go_simp; first | done | with_reducible rfl
      try simp only [Act.put, List.setIfInBounds_toArray, List.set_cons_zero, List.set_cons_succ]
      refine wpAnyH_take (i := 4) (v := ?_) rfl (by kernel_rfl) (by kernel_rfl) (by kernel_rfl) (fun _ _ _ h => h) (Or.inl ⟨by rfl, ?_⟩) (by assumption) ?_
      rotate_left
      · intro w hSw; (try dsimp only at hSw); go_simp; first | done | with_reducible rfl
      try simp only [Act.put, List.setIfInBounds_toArray, List.set_cons_zero, List.set_cons_succ]
      refine wpAnyH_take (i := 5) (v := ?_) rfl (by kernel_rfl) (by kernel_rfl) (by kernel_rfl) (fun _ _ _ h => h) (Or.inl ⟨by rfl, ?_⟩) (by assumption) ?_
      rotate_left
      · intro w hSw; (try dsimp only at hSw); go_simp; first | done | with_reducible rfl
      try simp only [Act.put, List.setIfInBounds_toArray, List.set_cons_zero, List.set_cons_succ]
      refine wpAnyH_take (i := 6) (v := ?_) rfl (by kernel_rfl) (by kernel_rfl) (by kernel_rfl) (fun _ _ _ h => h) (Or.inl ⟨by rfl, ?_⟩) (by assumption) ?_
      rotate_left
      · intro w hSw; (try dsimp only at hSw); go_simp; first | done | with_reducible rfl
      try simp only [Act.put, List.setIfInBounds_toArray, List.set_cons_zero, List.set_cons_succ]
      refine wpAnyH_take (i := 8) (v := ?_) rfl (by kernel_rfl) (by kernel_rfl) (by kernel_rfl) (fun _ _ _ h => h) (Or.inl ⟨by rfl, ?_⟩) (by assumption) ?_
      rotate_left
      · intro w hSw; (try dsimp only at hSw); go_simp; first | done | with_reducible rfl
      try simp only [Act.put, List.setIfInBounds_toArray, List.set_cons_zero, List.set_cons_succ]
      refine wpAnyH_ready (rs := [7]) (by kernel_rfl) (by simp) ?_
      refine AllReadyH.cons rfl (fun K hK => ?_) AllReadyH.nil
      go_simp
      refine (spec_InBase.calls kk (fun k => w.heap.size ≤ k) A1 c1 (figs 65536 V) _ great u _ ?_ HU.out).mono ?_
      · go_split_ands; exact Lw.dig (by assumption)
      rintro e w5 ⟨rfl, hbB⟩
      go_wp2_with fail
      refine hK.out _ _ ?_ (fun hHeld2 => ?_)
      · (try dsimp only); go_split_ands; exact Lw.cells (Lw.next (by assumption) hbB)
      clear hK K hHeld
      try simp only [Act.put, List.setIfInBounds_toArray, List.set_cons_zero, List.set_cons_succ]
      refine wpAnyH_ready (rs := [9]) (by kernel_rfl) (by simp) ?_
      refine AllReadyH.cons rfl (fun K hK => ?_) AllReadyH.nil
      go_simp
      refine (laws_underscored.calls u split t _ HT.out).mono ?_
      rintro e w6 ⟨rfl, hbU0⟩
      have hbU := Drawn0.below hbU0
      go_wp2_with fail
      refine hK.out _ _ ?_ (fun hHeld3 => ?_)
      · (try dsimp only); go_split_ands; exact Lw.cells (Lw.next (by assumption) hbU)
      clear hK K hHeld2
      try simp only [Act.put, List.setIfInBounds_toArray, List.set_cons_zero, List.set_cons_succ]
      refine wpAnyH_ready (rs := [10]) (by kernel_rfl) (by simp) ?_
      refine AllReadyH.cons rfl (fun K hK => ?_) AllReadyH.nil
      go_simp
      go_wp2_with fail
      refine hK.out _ _ ?_ (fun hHeld4 => ?_)
      · (try dsimp only); go_split_ands; exact Lw.cells (by assumption)
      clear hK K hHeld3
      try simp only [Act.put, List.setIfInBounds_toArray, List.set_cons_zero, List.set_cons_succ]
      refine wpAnyH_take (i := 11) (oi := ⟨some 13, _, _, _, _, _⟩) (v := ?_) rfl (by kernel_rfl) (by kernel_rfl) (by kernel_rfl) (fun _ _ _ h => h) (Or.inl ⟨by rfl, ?_⟩) (by assumption) ?_
      rotate_left
      · intro w hSw; (try dsimp only at hSw); go_simp; first | done | with_reducible rfl
      try simp only [Act.put, List.setIfInBounds_toArray, List.set_cons_zero, List.set_cons_succ]
      refine wpAnyH_done (by kernel_rfl) ?_ _
      go_wp2_with fail
      refine wp_region_held_drew (S := (fun w' => w'.cell? ⟨b9, 0, none⟩ = some (.bool false) ∧ w'.cell? ⟨b9, 1, none⟩ = some (.slice A1 (figs 65536 V).length c1) ∧ w'.cell? ⟨b9, 2, none⟩ = some (.slice A5 1 c5) ∧ Lw w b9 A1 (figs 65536 V).length c1 A5 c5 V w')) (by kernel_rfl) ?_ (fun hHeld => ?_)
      · (try dsimp only); go_split_ands; exact Lw.cells (Lw.drew (by assumption))
      clear hHeld4
      refine wpAnyH_take (i := 0) (v := ?_) rfl (by kernel_rfl) (by kernel_rfl) (by kernel_rfl) (fun _ _ _ h => h) (Or.inl ⟨by rfl, ?_⟩) (by assumption) ?_
      rotate_left
      · intro w hSw; (try dsimp only at hSw); go_simp; first | done | with_reducible rfl
      try simp only [Act.put, List.setIfInBounds_toArray, List.set_cons_zero, List.set_cons_succ]
      refine wpAnyH_take (i := 2) (v := ?_) rfl (by kernel_rfl) (by kernel_rfl) (by kernel_rfl) (fun _ _ _ h => h) (Or.inl ⟨by rfl, ?_⟩) (by assumption) ?_
      rotate_left
      · intro w hSw; (try dsimp only at hSw); go_simp; first | done | with_reducible rfl
      try simp only [Act.put, List.setIfInBounds_toArray, List.set_cons_zero, List.set_cons_succ]
      refine wpAnyH_ready (rs := [1]) (by kernel_rfl) (by simp) ?_
      refine AllReadyH.cons rfl (fun K hK => ?_) AllReadyH.nil
      go_simp
      refine (lit_int (form_x 88 (.inr rfl) HFT.out) (by have := HVL.out; omega) pa ev _ ?_ ?_ HEV2.out).mono ?_
      · go_split_ands; exact Eof.below HE.out (Lw.below (by assumption)) (World.block_lt_of_cell? _ _ HE.out)
      · go_split_ands; exact (Below.cell (Lw.below (by assumption)) (World.block_lt_of_cell? _ _ H2.out)).trans H2.out
      rintro e w7 ⟨A7, c7, rfl, hc7, hC7, hb7⟩
      have HC7 := Aside0.mk (And.intro hc7 hC7)
      clear hc7 hC7
      go_wp2_with fail
      refine hK.out _ _ ?_ (fun hHeld5 => ?_)
      · (try dsimp only); go_split_ands; exact Lw.cells (Lw.next (by assumption) hb7)
      clear hK K hHeld
      try simp only [Act.put, List.setIfInBounds_toArray, List.set_cons_zero, List.set_cons_succ]
      refine wpAnyH_ready (rs := [3]) (by kernel_rfl) (by simp) ?_
      refine AllReadyH.cons rfl (fun K hK => ?_) AllReadyH.nil
      go_simp
      refine (isInt_big V HVL.out A7 c7 A1 c1 A5 c5 _ HC7.out.1 HC7.out.2 ?_ ?_ ?_ ?_ HQ.out).mono ?_
      · go_split_ands; exact (Kd.V_reads' (Lw.dig (by assumption))).2.2
      · go_split_ands; exact (Kd.V_reads' (Lw.dig (by assumption))).2.1
      · go_split_ands; exact (Kd.V_reads' (Lw.one (by assumption))).2.2
      · go_split_ands; exact (Kd.V_reads' (Lw.one (by assumption))).2.1
      rintro e w8 ⟨rfl, hb8⟩
      go_wp2_with fail
      refine hK.out _ _ ?_ (fun hHeld6 => ?_)
      · (try dsimp only); go_split_ands; exact Lw.cells (Lw.next (by assumption) hb8)
      clear hK K hHeld5
      try simp only [Act.put, List.setIfInBounds_toArray, List.set_cons_zero, List.set_cons_succ]
      refine wpAnyH_take (i := 4) (oi := ⟨some 8, _, _, _, _, _⟩) (v := ?_) rfl (by kernel_rfl) (by kernel_rfl) (by kernel_rfl) (fun _ _ _ h => h) (Or.inl ⟨by rfl, ?_⟩) (by assumption) ?_
      rotate_left
      · intro w hSw; (try dsimp only at hSw); go_simp; first | done | with_reducible rfl
      try simp only [Act.put, List.setIfInBounds_toArray, List.set_cons_zero, List.set_cons_succ]
      refine wpAnyH_done (by kernel_rfl) ?_ _
      go_wp2_with fail
      go_ret
      go_split_ands
      exact ⟨rfl, Lw.below (by assumption)⟩
end Go.Proofs.YtgpoplfgngiilaaGreatDoor

namespace Go.Proofs.YtgpoplfgngiilaaGreatDoor
open Go.RowKit Go.Proofs.YtgpoplfgngiilaaGreatDoorW.PrintWords PAll Pl

set_option maxHeartbeats 4000000 in
set_option maxRecDepth 100000 in
theorem int_form3 (kd : Int) (tr : Bool) (tx : ByteArray) (neg : Bool) (A : Option Addr) (c : Nat) (xs : List Int) (A2 : Option Addr) (c2 : Nat) (zs : List Int) (ineg : Bool) (A3 : Option Addr) (c3 : Nat) (xs3 : List Int) (A4 : Option Addr) (c4 : Nat) (xs4 : List Int) (f : Int) (great split : Bool) (w : World) (hA : Kd.C (Kd.int .u64) w A xs.length xs) (hc : xs.length ≤ c) (hA2 : Kd.C (Kd.int .u64) w A2 zs.length zs) (hc2 : zs.length ≤ c2) (hA3 : Kd.C (Kd.int .u64) w A3 xs3.length xs3) (hc3 : xs3.length ≤ c3) (hA4 : Kd.C (Kd.int .u64) w A4 xs4.length xs4) (hc4 : xs4.length ≤ c4) (hd : Dg (18446744073709551616 : Nat) xs) (hl : xs.length ≤ 10) (hr : laws_zzFits1.f kd tr tx neg xs zs ineg xs3 xs4 = some true) (hf0 : 0 ≤ f) (hf1 : f < 256) (hf : f % 8 = 3)
    (pa : Addr) (ev : Value) (hev : Eof w pa) (h2 : w.cell? ⟨2, 0, none⟩ = some ev) (hev2 : ev = .nilIface ∨ ∃ te pe, ev = .iface te pe) :
    Calls Tryz.prog 3 #[.agg #[.int .i64 kd, .bool tr, .string tx, .bool neg, .slice A xs.length c, .slice A2 zs.length c2, .bool ineg, .slice A3 xs3.length c3, .slice A4 xs4.length c4], .int .u8 f, .bool great, .bool split] w fun e w' => e = .returned (.bool true) ∧ Below w.heap.size w w' := by
  obtain ⟨W0, hW0⟩ : ∃ W0, W0 = w.alloc (.cells #[.int .i64 kd, .bool tr, .string tx, .bool neg, .slice A xs.length c, .slice A2 zs.length c2, .bool ineg, .slice A3 xs3.length c3, .slice A4 xs4.length c4] 26) := ⟨_, rfl⟩
  have hB0 : Below w.heap.size w W0 := by rw [hW0]; exact below_alloc (Below.refl _ _) _
  have hn0 : W0.heap[w.heap.size]? = some (.cells #[.int .i64 kd, .bool tr, .string tx, .bool neg, .slice A xs.length c, .slice A2 zs.length c2, .bool ineg, .slice A3 xs3.length c3, .slice A4 xs4.length c4] 26 (0, 0)) := by rw [hW0]; exact heap_alloc_new _ _
  have H6 := Aside0.mk (laws_zzFits1.calls kd tr tx neg A c xs A2 c2 zs ineg A3 c3 xs3 A4 c4 xs4 true W0 (Kd.C_below hA hB0) hc (Kd.C_below hA2 hB0) hc2 (Kd.C_below hA3 hB0) hc3 (Kd.C_below hA4 hB0) hc4 hr)
  have HB0 := Aside0.mk hB0
  have HN0 := Aside0.mk hn0
  have HW0 := Lib.hid hW0
  have H7 := Lib.hid (fun (W : World) (hb : Below w.heap.size w W) => whole_small kd tr tx neg A c xs A2 zs.length c2 ineg A3 c3 xs3 A4 c4 xs4 W hd hl (Kd.C_below hA hb) hc (Kd.C_below hA3 hb) hc3 (Kd.C_below hA4 hb) hc4)
  have HE := Aside0.mk hev
  have H2 := Aside0.mk h2
  have HEV2 := Aside0.mk hev2
  have HL := Aside0.mk hl
  have i34 : ∀ W, (Instr.index 34 (.agg #[.int .i64 10, .int .i64 16, .int .i64 16, .int .i64 2, .int .i64 2, .int .i64 8, .int .i64 8, .int .i64 8]) (.int .i64 3)).run Tryz.prog W = .ok (.int .i64 2) W := fun _ => by as_aux_lemma => kernel_rfl
  have i35 : ∀ W, (Instr.index 35 (.agg #[.string ⟨#[]⟩, .string ⟨#[48, 120]⟩, .string ⟨#[48, 88]⟩, .string ⟨#[48, 98]⟩, .string ⟨#[48, 66]⟩, .string ⟨#[48, 111]⟩, .string ⟨#[48, 79]⟩, .string ⟨#[48]⟩]) (.int .i64 3)).run Tryz.prog W = .ok (.string ⟨#[48, 98]⟩) W := fun _ => by as_aux_lemma => kernel_rfl
  clear hW0 hB0 hn0 hr hA hc hA2 hc2 hA3 hc3 hA4 hc4 hd hl hev h2 hev2
  go_enter Tryz.func3, Tryz.ntmps3
  go_wp2_with fail
  rw [← HW0.out]
  refine H6.out.mono ?_
  rintro e w1 ⟨rfl, hb⟩
  have hbk := blk_below HN0.out hb
  have k0 : w1.cell? ⟨w.heap.size, 0, none⟩ = some (.int .i64 kd) := blk_cell hbk 0
  have k1 : w1.cell? ⟨w.heap.size, 1, none⟩ = some (.bool tr) := blk_cell hbk 1
  have k2 : w1.cell? ⟨w.heap.size, 2, none⟩ = some (.string tx) := blk_cell hbk 2
  have k3 : w1.cell? ⟨w.heap.size, 3, none⟩ = some (.bool neg) := blk_cell hbk 3
  have k4 : w1.cell? ⟨w.heap.size, 4, none⟩ = some (.slice A xs.length c) := blk_cell hbk 4
  have k5 : w1.cell? ⟨w.heap.size, 5, none⟩ = some (.slice A2 zs.length c2) := blk_cell hbk 5
  have k6 : w1.cell? ⟨w.heap.size, 6, none⟩ = some (.bool ineg) := blk_cell hbk 6
  have k7 : w1.cell? ⟨w.heap.size, 7, none⟩ = some (.slice A3 xs3.length c3) := blk_cell hbk 7
  have k8 : w1.cell? ⟨w.heap.size, 8, none⟩ = some (.slice A4 xs4.length c4) := blk_cell hbk 8
  have HB := Aside0.mk (below_step HB0.out hb)
  clear hb hbk
  go_wp2_with fail
  refine (H7.out w1 HB.out).mono ?_
  rintro e w2 ⟨n, A1, n1, c1, A5, n5, c5, ok, rfl, hb, himp⟩
  have HB2 := Aside0.mk (below_step HB.out hb)
  cases ok with
  | false =>
    clear himp hb
    go_wp2_with fail
    go_ret
    exact ⟨rfl, below_alloc HB2.out _⟩
  | true =>
    cases n with
    | true =>
      clear himp hb
      go_wp2_with fail
      go_ret
      exact ⟨rfl, below_alloc HB2.out _⟩
    | false =>
      obtain ⟨V, hxs, rfl, rfl, hV1, hV5⟩ := himp rfl rfl
      have hVl : (figs 18446744073709551616 V).length ≤ 10 := by rw [← hxs]; exact HL.out
      have hq : (figs 65536 V).length ≤ 40 := figs_quad V 10 hVl
      obtain ⟨kk, u, t, hu, ht, hft⟩ := und_text 2 V great split (by decide) (by decide) hVl
      obtain ⟨b9, hb9⟩ : ∃ b9, b9 = w2.heap.size := ⟨_, rfl⟩
      obtain ⟨W2, hW2⟩ : ∃ W2, W2 = w2.alloc (.cells #[.bool false, .slice A1 (figs 65536 V).length c1, .slice A5 1 c5] 31) := ⟨_, rfl⟩
      have hLw : Lw w b9 A1 (figs 65536 V).length c1 A5 c5 V W2 := by
        have hb3 := below_alloc (Below.refl w2.heap.size w2) (.cells #[.bool false, .slice A1 (figs 65536 V).length c1, .slice A5 1 c5] 31)
        refine ⟨by rw [hW2]; exact below_alloc HB2.out _, by rw [hb9]; exact HB2.out.size, by rw [hW2, hb9]; exact heap_alloc_new w2 _, ?_, ?_⟩
        · rw [hW2]; exact Kd.V_below (Kd.V_mono hV1 (fun k hk => Nat.le_trans HB.out.size hk)) hb3
        · rw [hW2]; exact Kd.V_below (Kd.V_mono hV5 (fun k hk => Nat.le_trans HB.out.size hk)) hb3
      have HW2 := Lib.hid hW2
      have HB9 := Lib.hid hb9
      have HU : Aside0 (spec_InBase.f kk (figs 65536 V) 2 great = some u) := Aside0.mk hu
      have HT := Aside0.mk ht
      have HFT := Aside0.mk hft
      have HQ := Aside0.mk hq
      have HVL := Aside0.mk hVl
      have hc0 : W2.cell? ⟨b9, 0, none⟩ = some (.bool false) := blk_cell hLw.blk 0
      have hc1 : W2.cell? ⟨b9, 1, none⟩ = some (.slice A1 (figs 65536 V).length c1) := blk_cell hLw.blk 1
      have hc2 : W2.cell? ⟨b9, 2, none⟩ = some (.slice A5 1 c5) := blk_cell hLw.blk 2
      have hts : t.size ≤ 1000 := hft.size
      have hsz : (⟨#[48, 98]⟩ : ByteArray).size + t.size ≤ 9223372036854775807 := by
        have e : (⟨#[48, 98]⟩ : ByteArray).size = 2 := rfl
        omega
      have hsz2 : 2 + t.size ≤ 9223372036854775807 := by omega
      clear himp hb hxs hV1 hV5 hVl hq hu ht hft hb9 hW2
      go_upto_region 4 with (fail)
      rw [← HW2.out, ← HB9.out]
      go_wp2_with fail
      refine wp_region_held_drew (S := (fun w' => w'.cell? ⟨b9, 0, none⟩ = some (.bool false) ∧ w'.cell? ⟨b9, 1, none⟩ = some (.slice A1 (figs 65536 V).length c1) ∧ w'.cell? ⟨b9, 2, none⟩ = some (.slice A5 1 c5) ∧ Lw w b9 A1 (figs 65536 V).length c1 A5 c5 V w')) (by kernel_rfl) ?_ (fun hHeld => ?_)
      · exact Lw.cells (Lw.drew hLw)
      refine wpAnyH_take (i := 0) (v := ?_) rfl (by kernel_rfl) (by kernel_rfl) (by kernel_rfl) (fun _ _ _ h => h) (Or.inl ⟨by rfl, ?_⟩) (by assumption) ?_
      rotate_left
      · intro w hSw; (try dsimp only at hSw); go_simp; first | done | with_reducible rfl
      try simp only [Act.put, List.setIfInBounds_toArray, List.set_cons_zero, List.set_cons_succ]
      refine wpAnyH_take (i := 1) (v := ?_) rfl (by kernel_rfl) (by kernel_rfl) (by kernel_rfl) (fun _ _ _ h => h) (Or.inl ⟨by rfl, ?_⟩) (by assumption) ?_
      rotate_left
      · intro w hSw; (try dsimp only at hSw); go_simp; first | done | with_reducible rfl
      try simp only [Act.put, List.setIfInBounds_toArray, List.set_cons_zero, List.set_cons_succ]
      refine wpAnyH_take (i := 2) (v := ?_) rfl (by kernel_rfl) (by kernel_rfl) (by kernel_rfl) (fun _ _ _ h => h) (Or.inl ⟨by rfl, ?_⟩) (by assumption) ?_
      rotate_left
      · intro w hSw; (try dsimp only at hSw); go_simp; first | done | with_reducible rfl
      try simp only [Act.put, List.setIfInBounds_toArray, List.set_cons_zero, List.set_cons_succ]
      refine wpAnyH_take (i := 3) (v := ?_) rfl (by kernel_rfl) (by kernel_rfl) (by kernel_rfl) (fun _ _ _ h => h) (Or.inl ⟨by rfl, ?_⟩) (by assumption) ?_
      rotate_left
      · intro w hSw; (try dsimp only at hSw); go_simp; first | done | with_reducible rfl
      try simp only [Act.put, List.setIfInBounds_toArray, List.set_cons_zero, List.set_cons_succ]
      refine wpAnyH_take (i := 4) (v := ?_) rfl (by kernel_rfl) (by kernel_rfl) (by kernel_rfl) (fun _ _ _ h => h) (Or.inl ⟨by rfl, ?_⟩) (by assumption) ?_
      rotate_left
      · intro w hSw; (try dsimp only at hSw); go_simp; first | done | with_reducible rfl
      try simp only [Act.put, List.setIfInBounds_toArray, List.set_cons_zero, List.set_cons_succ]
      refine wpAnyH_take (i := 5) (v := ?_) rfl (by kernel_rfl) (by kernel_rfl) (by kernel_rfl) (fun _ _ _ h => h) (Or.inl ⟨by rfl, ?_⟩) (by assumption) ?_
      rotate_left
      · intro w hSw; (try dsimp only at hSw); go_simp; first | done | with_reducible rfl
      try simp only [Act.put, List.setIfInBounds_toArray, List.set_cons_zero, List.set_cons_succ]
      refine wpAnyH_take (i := 6) (v := ?_) rfl (by kernel_rfl) (by kernel_rfl) (by kernel_rfl) (fun _ _ _ h => h) (Or.inl ⟨by rfl, ?_⟩) (by assumption) ?_
      rotate_left
      · intro w hSw; (try dsimp only at hSw); go_simp; first | done | with_reducible rfl
      try simp only [Act.put, List.setIfInBounds_toArray, List.set_cons_zero, List.set_cons_succ]
      refine wpAnyH_take (i := 8) (v := ?_) rfl (by kernel_rfl) (by kernel_rfl) (by kernel_rfl) (fun _ _ _ h => h) (Or.inl ⟨by rfl, ?_⟩) (by assumption) ?_
      rotate_left
      · intro w hSw; (try dsimp only at hSw); go_simp; first | done | with_reducible rfl
      try simp only [Act.put, List.setIfInBounds_toArray, List.set_cons_zero, List.set_cons_succ]
      refine wpAnyH_ready (rs := [7]) (by kernel_rfl) (by simp) ?_
      refine AllReadyH.cons rfl (fun K hK => ?_) AllReadyH.nil
      go_simp
      refine (spec_InBase.calls kk (fun k => w.heap.size ≤ k) A1 c1 (figs 65536 V) _ great u _ ?_ HU.out).mono ?_
      · go_split_ands; exact Lw.dig (by assumption)
      rintro e w5 ⟨rfl, hbB⟩
      go_wp2_with fail
      refine hK.out _ _ ?_ (fun hHeld2 => ?_)
      · (try dsimp only); go_split_ands; exact Lw.cells (Lw.next (by assumption) hbB)
      clear hK K hHeld
      try simp only [Act.put, List.setIfInBounds_toArray, List.set_cons_zero, List.set_cons_succ]
      refine wpAnyH_ready (rs := [9]) (by kernel_rfl) (by simp) ?_
      refine AllReadyH.cons rfl (fun K hK => ?_) AllReadyH.nil
      go_simp
      refine (laws_underscored.calls u split t _ HT.out).mono ?_
      rintro e w6 ⟨rfl, hbU0⟩
      have hbU := Drawn0.below hbU0
      go_wp2_with fail
      refine hK.out _ _ ?_ (fun hHeld3 => ?_)
      · (try dsimp only); go_split_ands; exact Lw.cells (Lw.next (by assumption) hbU)
      clear hK K hHeld2
      try simp only [Act.put, List.setIfInBounds_toArray, List.set_cons_zero, List.set_cons_succ]
      refine wpAnyH_ready (rs := [10]) (by kernel_rfl) (by simp) ?_
      refine AllReadyH.cons rfl (fun K hK => ?_) AllReadyH.nil
      go_simp
      go_wp2_with fail
      refine hK.out _ _ ?_ (fun hHeld4 => ?_)
      · (try dsimp only); go_split_ands; exact Lw.cells (by assumption)
      clear hK K hHeld3
      try simp only [Act.put, List.setIfInBounds_toArray, List.set_cons_zero, List.set_cons_succ]
      refine wpAnyH_take (i := 11) (oi := ⟨some 13, _, _, _, _, _⟩) (v := ?_) rfl (by kernel_rfl) (by kernel_rfl) (by kernel_rfl) (fun _ _ _ h => h) (Or.inl ⟨by rfl, ?_⟩) (by assumption) ?_
      rotate_left
      · intro w hSw; (try dsimp only at hSw); go_simp; first | done | with_reducible rfl
      try simp only [Act.put, List.setIfInBounds_toArray, List.set_cons_zero, List.set_cons_succ]
      refine wpAnyH_done (by kernel_rfl) ?_ _
      go_wp2_with fail
      refine wp_region_held_drew (S := (fun w' => w'.cell? ⟨b9, 0, none⟩ = some (.bool false) ∧ w'.cell? ⟨b9, 1, none⟩ = some (.slice A1 (figs 65536 V).length c1) ∧ w'.cell? ⟨b9, 2, none⟩ = some (.slice A5 1 c5) ∧ Lw w b9 A1 (figs 65536 V).length c1 A5 c5 V w')) (by kernel_rfl) ?_ (fun hHeld => ?_)
      · (try dsimp only); go_split_ands; exact Lw.cells (Lw.drew (by assumption))
      clear hHeld4
      refine wpAnyH_take (i := 0) (v := ?_) rfl (by kernel_rfl) (by kernel_rfl) (by kernel_rfl) (fun _ _ _ h => h) (Or.inl ⟨by rfl, ?_⟩) (by assumption) ?_
      rotate_left
      · intro w hSw; (try dsimp only at hSw); go_simp; first | done | with_reducible rfl
      try simp only [Act.put, List.setIfInBounds_toArray, List.set_cons_zero, List.set_cons_succ]
      refine wpAnyH_take (i := 2) (v := ?_) rfl (by kernel_rfl) (by kernel_rfl) (by kernel_rfl) (fun _ _ _ h => h) (Or.inl ⟨by rfl, ?_⟩) (by assumption) ?_
      rotate_left
      · intro w hSw; (try dsimp only at hSw); go_simp; first | done | with_reducible rfl
      try simp only [Act.put, List.setIfInBounds_toArray, List.set_cons_zero, List.set_cons_succ]
      refine wpAnyH_ready (rs := [1]) (by kernel_rfl) (by simp) ?_
      refine AllReadyH.cons rfl (fun K hK => ?_) AllReadyH.nil
      go_simp
      refine (lit_int (form_b 98 (.inl rfl) HFT.out) (by have := HVL.out; omega) pa ev _ ?_ ?_ HEV2.out).mono ?_
      · go_split_ands; exact Eof.below HE.out (Lw.below (by assumption)) (World.block_lt_of_cell? _ _ HE.out)
      · go_split_ands; exact (Below.cell (Lw.below (by assumption)) (World.block_lt_of_cell? _ _ H2.out)).trans H2.out
      rintro e w7 ⟨A7, c7, rfl, hc7, hC7, hb7⟩
      have HC7 := Aside0.mk (And.intro hc7 hC7)
      clear hc7 hC7
      go_wp2_with fail
      refine hK.out _ _ ?_ (fun hHeld5 => ?_)
      · (try dsimp only); go_split_ands; exact Lw.cells (Lw.next (by assumption) hb7)
      clear hK K hHeld
      try simp only [Act.put, List.setIfInBounds_toArray, List.set_cons_zero, List.set_cons_succ]
      refine wpAnyH_ready (rs := [3]) (by kernel_rfl) (by simp) ?_
      refine AllReadyH.cons rfl (fun K hK => ?_) AllReadyH.nil
      go_simp
      refine (isInt_big V HVL.out A7 c7 A1 c1 A5 c5 _ HC7.out.1 HC7.out.2 ?_ ?_ ?_ ?_ HQ.out).mono ?_
      · go_split_ands; exact (Kd.V_reads' (Lw.dig (by assumption))).2.2
      · go_split_ands; exact (Kd.V_reads' (Lw.dig (by assumption))).2.1
      · go_split_ands; exact (Kd.V_reads' (Lw.one (by assumption))).2.2
      · go_split_ands; exact (Kd.V_reads' (Lw.one (by assumption))).2.1
      rintro e w8 ⟨rfl, hb8⟩
      go_wp2_with fail
      refine hK.out _ _ ?_ (fun hHeld6 => ?_)
      · (try dsimp only); go_split_ands; exact Lw.cells (Lw.next (by assumption) hb8)
      clear hK K hHeld5
      try simp only [Act.put, List.setIfInBounds_toArray, List.set_cons_zero, List.set_cons_succ]
      refine wpAnyH_take (i := 4) (oi := ⟨some 8, _, _, _, _, _⟩) (v := ?_) rfl (by kernel_rfl) (by kernel_rfl) (by kernel_rfl) (fun _ _ _ h => h) (Or.inl ⟨by rfl, ?_⟩) (by assumption) ?_
      rotate_left
      · intro w hSw; (try dsimp only at hSw); go_simp; first | done | with_reducible rfl
      try simp only [Act.put, List.setIfInBounds_toArray, List.set_cons_zero, List.set_cons_succ]
      refine wpAnyH_done (by kernel_rfl) ?_ _
      go_wp2_with fail
      go_ret
      go_split_ands
      exact ⟨rfl, Lw.below (by assumption)⟩
end Go.Proofs.YtgpoplfgngiilaaGreatDoor
