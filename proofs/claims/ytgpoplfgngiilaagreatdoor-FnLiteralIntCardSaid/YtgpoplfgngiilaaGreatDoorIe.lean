/- The law FnLiteralInt: whatever the input, true. Opening what the card of FnLiteralInt hands over: a Value of package impl; the laid variables io.EOF and strconv.ErrRange. Proved: the tied card of FnLiteralInt: for every value x, every form, every choice of great letters and of an underscore, the law FnLiteralInt of package laws returns true and its input reads as it did. No conditions beyond those of the given row. -/
import Derived.Test.YtgpoplfgngiilaaGreatDoorFa
import Derived.Test.YtgpoplfgngiilaaGreatDoorFb
import Derived.Test.YtgpoplfgngiilaaGreatDoorPz
import Derived.ProofKit
import Derived.Stop.LaidErr
import Derived.Test.YtgpoplfgngiilaaGreatDoorRows
import Derived.Test.YtgpoplfgngiilaaGreatDoorCards
import Derived.Test.YtgpoplfgngiilaaGreatDoorTie
import Derived.Test.YtgpoplfgngiilaaGreatDoorCi
import Derived.OpenVars
import Derived.PinnedBridge
import Derived.Lay
import Derived.SevenTiedAt
set_option linter.unusedVariables false
set_option linter.unusedSimpArgs false
namespace Go.Proofs.YtgpoplfgngiilaaGreatDoor
open Go.RowKit Go.Proofs.YtgpoplfgngiilaaGreatDoorW.PrintWords PAll Pl

theorem fits_some (kd : Int) (tr : Bool) (tx : ByteArray) (neg : Bool) (xs zs : List Int) (ineg : Bool) (xs3 xs4 : List Int) : ∃ r, laws_zzFits1.f kd tr tx neg xs zs ineg xs3 xs4 = some r := by
  have h2 : ∀ (b : Bool) (l : List Int), ∃ r, laws_zzFits2.f b l = some r := fun b l => by
    unfold laws_zzFits2.f
    split <;> exact ⟨_, rfl⟩
  obtain ⟨r1, h1⟩ := h2 neg xs
  obtain ⟨r3, h3⟩ := h2 ineg xs3
  unfold laws_zzFits1.f
  rw [h1, h3]
  simp only [Option.bind_some]
  split
  · exact ⟨_, rfl⟩
  · split
    · split
      · exact ⟨_, rfl⟩
      · split
        · split
          · exact ⟨_, rfl⟩
          · exact ⟨_, rfl⟩
        · exact ⟨_, rfl⟩
    · exact ⟨_, rfl⟩

theorem int_law (kd : Int) (tr : Bool) (tx : ByteArray) (neg : Bool) (A : Option Addr) (c : Nat) (xs : List Int) (A2 : Option Addr) (c2 : Nat) (zs : List Int) (ineg : Bool) (A3 : Option Addr) (c3 : Nat) (xs3 : List Int) (A4 : Option Addr) (c4 : Nat) (xs4 : List Int) (f : Int) (great split : Bool) (w : World)
    (hA : Kd.C (Kd.int .u64) w A xs.length xs) (hc : xs.length ≤ c) (hA2 : Kd.C (Kd.int .u64) w A2 zs.length zs) (hc2 : zs.length ≤ c2) (hA3 : Kd.C (Kd.int .u64) w A3 xs3.length xs3) (hc3 : xs3.length ≤ c3) (hA4 : Kd.C (Kd.int .u64) w A4 xs4.length xs4) (hc4 : xs4.length ≤ c4)
    (hd : Dg (18446744073709551616 : Nat) xs) (hf0 : 0 ≤ f) (hf1 : f < 256) (pa : Addr) (ev : Value) (hev : Eof w pa) (h2 : w.cell? ⟨2, 0, none⟩ = some ev) (hev2 : ev = .nilIface ∨ ∃ te pe, ev = .iface te pe) :
    Calls Tryz.prog 3 #[.agg #[.int .i64 kd, .bool tr, .string tx, .bool neg, .slice A xs.length c, .slice A2 zs.length c2, .bool ineg, .slice A3 xs3.length c3, .slice A4 xs4.length c4], .int .u8 f, .bool great, .bool split] w fun e w' => e = .returned (.bool true) ∧ Below w.heap.size w w' := by
  obtain ⟨r, hr⟩ := fits_some kd tr tx neg xs zs ineg xs3 xs4
  cases r with
  | false => exact int_fits_no kd tr tx neg A c xs A2 c2 zs ineg A3 c3 xs3 A4 c4 xs4 f great split w hA hc hA2 hc2 hA3 hc3 hA4 hc4 hr
  | true =>
    rcases Nat.lt_or_ge 10 xs.length with hl | hl
    · exact int_great kd tr tx neg A c xs A2 c2 zs ineg A3 c3 xs3 A4 c4 xs4 f great split w hA hc hA2 hc2 hA3 hc3 hA4 hc4 hr hl
    · rcases (by omega : f % 8 = 0 ∨ f % 8 = 1 ∨ f % 8 = 2 ∨ f % 8 = 3 ∨ f % 8 = 4 ∨ f % 8 = 5 ∨ f % 8 = 6 ∨ f % 8 = 7) with hf | hf | hf | hf | hf | hf | hf | hf
      · exact int_form0 kd tr tx neg A c xs A2 c2 zs ineg A3 c3 xs3 A4 c4 xs4 f great split w hA hc hA2 hc2 hA3 hc3 hA4 hc4 hd hl hr hf0 hf1 hf pa ev hev h2 hev2
      · exact int_form1 kd tr tx neg A c xs A2 c2 zs ineg A3 c3 xs3 A4 c4 xs4 f great split w hA hc hA2 hc2 hA3 hc3 hA4 hc4 hd hl hr hf0 hf1 hf pa ev hev h2 hev2
      · exact int_form2 kd tr tx neg A c xs A2 c2 zs ineg A3 c3 xs3 A4 c4 xs4 f great split w hA hc hA2 hc2 hA3 hc3 hA4 hc4 hd hl hr hf0 hf1 hf pa ev hev h2 hev2
      · exact int_form3 kd tr tx neg A c xs A2 c2 zs ineg A3 c3 xs3 A4 c4 xs4 f great split w hA hc hA2 hc2 hA3 hc3 hA4 hc4 hd hl hr hf0 hf1 hf pa ev hev h2 hev2
      · exact int_form4 kd tr tx neg A c xs A2 c2 zs ineg A3 c3 xs3 A4 c4 xs4 f great split w hA hc hA2 hc2 hA3 hc3 hA4 hc4 hd hl hr hf0 hf1 hf pa ev hev h2 hev2
      · exact int_form5 kd tr tx neg A c xs A2 c2 zs ineg A3 c3 xs3 A4 c4 xs4 f great split w hA hc hA2 hc2 hA3 hc3 hA4 hc4 hd hl hr hf0 hf1 hf pa ev hev h2 hev2
      · exact int_form6 kd tr tx neg A c xs A2 c2 zs ineg A3 c3 xs3 A4 c4 xs4 f great split w hA hc hA2 hc2 hA3 hc3 hA4 hc4 hd hl hr hf0 hf1 hf pa ev hev h2 hev2
      · exact int_form7 kd tr tx neg A c xs A2 c2 zs ineg A3 c3 xs3 A4 c4 xs4 f great split w hA hc hA2 hc2 hA3 hc3 hA4 hc4 hd hl hr hf0 hf1 hf pa ev hev h2 hev2
end Go.Proofs.YtgpoplfgngiilaaGreatDoor

namespace Go.Proofs.YtgpoplfgngiilaaGreatDoor
open Go.RowKit Go.ChangeShapes Go.WideShapes Go.Proofs.YtgpoplfgngiilaaGreatDoorW.PrintWords PAll Pl
set_option linter.constructorNameAsVariable false

section
variable {H : Type} {enc : TypeId × Value → H} {W : World} {base : Nat} {spare : Nat → Bool} {held : Bool}

theorem open_words {fuel : Nat} {cs : List Value} {x : DataW H × List MemPlace} (h : DataW.trod enc Tryz.prog W base spare held fuel 22 cs = some x) :
    ∃ A c xs, cs = [.slice A xs.length c] ∧ xs.length ≤ c ∧ Kd.C (Kd.int .u64) W A xs.length xs ∧ Dg (18446744073709551616 : Nat) xs := by
  rcases open_ints Tryz.underlying22 Tryz.underlying50 (by kernel_rfl) h with ⟨hcs, _⟩ | ⟨a, l, c, zs, hcs, _, hl, hm, hz, _, hcell, hw⟩
  · exact ⟨none, 0, [], hcs, Nat.le_refl _, C_nil _ _ _, Dg_nil _⟩
  · have hlz : l ≤ zs.length := by rw [hz]; split <;> omega
    have hll : (zs.take l).length = l := by rw [List.length_take]; omega
    refine ⟨some a, c, zs.take l, by rw [hll]; exact hcs, by omega, ?_, ?_⟩
    · refine C_mk (by rw [hll]; unfold maxLen at hm; omega) (fun i hi => ?_)
      rw [hll] at hi
      rw [hcell i (by omega)]
      simp [List.getD_eq_getElem?_getD, hi]
    · intro n hn
      have := hw n (List.mem_of_mem_take hn)
      simp [Lit.wf, IntKind.min, IntKind.max, IntKind.signed, IntKind.bits] at this
      omega

theorem list_two {α : Type} : ∀ {l : List α}, l.length = 2 → ∃ a b, l = [a, b]
  | [a, b], _ => ⟨a, b, rfl⟩
theorem list_7 {α : Type} : ∀ {l : List α}, l.length = 7 → ∃ a b c d e f g, l = [a, b, c, d, e, f, g]
  | [a, b, c, d, e, f, g], _ => ⟨a, b, c, d, e, f, g, rfl⟩
theorem list_9 {α : Type} : ∀ {l : List α}, l.length = 9 → ∃ a b c d e f g h i, l = [a, b, c, d, e, f, g, h, i]
  | [a, b, c, d, e, f, g, h, i], _ => ⟨a, b, c, d, e, f, g, h, i, rfl⟩
theorem cells4 : Tryz.prog.cellsOf 4 = 1 := by kernel_rfl
theorem cells3 : Tryz.prog.cellsOf 3 = 1 := by kernel_rfl
theorem cells9 : Tryz.prog.cellsOf 9 = 1 := by kernel_rfl
theorem cells22 : Tryz.prog.cellsOf 22 = 1 := by kernel_rfl
theorem cells24 : Tryz.prog.cellsOf 24 = 2 := by kernel_rfl
theorem cells26 : Tryz.prog.cellsOf 26 = 9 := by kernel_rfl
theorem cells281 : Tryz.prog.cellsOf 281 = 1 := by kernel_rfl

/-- A Number: its sign, its words. -/
theorem open_number {fuel : Nat} {cs : List Value} {x : DataW H × List MemPlace} (h : DataW.trod enc Tryz.prog W base spare held fuel 24 cs = some x) :
    ∃ neg A c xs, cs = [.bool neg, .slice A xs.length c] ∧ xs.length ≤ c ∧ Kd.C (Kd.int .u64) W A xs.length xs ∧ Dg (18446744073709551616 : Nat) xs := by
  obtain ⟨ys, n, _, _, hl, hlen, hf⟩ := DataW.trod_struct Tryz.underlying24 h
  obtain ⟨v0, v1, rfl⟩ := list_two (hl.trans cells24)
  have hlen2 : ys.length = 2 := hlen
  obtain ⟨y0, y1, rfl⟩ := list_two hlen2
  have h0 := hf 0 _ rfl
  have h1 := hf 1 _ rfl
  have g0 : DataW.trod enc Tryz.prog W base spare held n 4 (([v0, v1].drop 0).take (Tryz.prog.cellsOf 4)) = some y0 := h0
  have g1 : DataW.trod enc Tryz.prog W base spare held n 22 (([v0, v1].drop 1).take (Tryz.prog.cellsOf 22)) = some y1 := h1
  rw [cells4] at g0
  rw [cells22] at g1
  obtain ⟨b, hb, _⟩ := DataW.trod_bool Tryz.underlying4 g0
  obtain ⟨A, c, xs, hs, h2, h3, h4⟩ := open_words g1
  have e0 : v0 = .bool b := by simpa using hb
  have e1 : v1 = .slice A xs.length c := by simpa using hs
  subst e0 e1
  exact ⟨b, A, c, xs, rfl, h2, h3, h4⟩

set_option maxRecDepth 100000 in
/-- A Value: nine cells. -/
theorem open_value {v : Value} {d : DataW H} {p : List MemPlace} {r : Reach} {b0 : Nat} (hv : Value.okWide Tryz.prog W r b0 26 v) (h : DataW.Trod enc Tryz.prog W base spare held 26 v d p) :
    ∃ kd tr tx neg A c xs A2 c2 zs ineg A3 c3 xs3 A4 c4 xs4, v = .agg #[.int .i64 kd, .bool tr, .string tx, .bool neg, .slice A (xs : List Int).length c, .slice A2 (zs : List Int).length c2, .bool ineg, .slice A3 (xs3 : List Int).length c3, .slice A4 (xs4 : List Int).length c4] ∧
      xs.length ≤ c ∧ Kd.C (Kd.int .u64) W A xs.length xs ∧ Dg (18446744073709551616 : Nat) xs ∧ zs.length ≤ c2 ∧ Kd.C (Kd.int .u64) W A2 zs.length zs ∧ xs3.length ≤ c3 ∧ Kd.C (Kd.int .u64) W A3 xs3.length xs3 ∧ xs4.length ≤ c4 ∧ Kd.C (Kd.int .u64) W A4 xs4.length xs4 := by
  obtain ⟨cs, rfl, hsz⟩ := okWide_struct Tryz.underlying26 hv
  obtain ⟨l⟩ := cs
  have hl9 : l.length = 9 := (show l.length = Tryz.prog.cellsOf 26 from hsz).trans cells26
  obtain ⟨u0, u1, u2, u3, u4, u5, u6, u7, u8, rfl⟩ := list_9 hl9
  obtain ⟨fuel, hf⟩ := h
  obtain ⟨ys, n, _, _, _, hlen, hg⟩ := DataW.trod_struct Tryz.underlying26 hf
  have hlen7 : ys.length = 7 := hlen
  obtain ⟨y0, y1, y2, y3, y4, y5, y6, rfl⟩ := list_7 hlen7
  have g0 : DataW.trod enc Tryz.prog W base spare held n 3 (([u0, u1, u2, u3, u4, u5, u6, u7, u8].drop 0).take (Tryz.prog.cellsOf 3)) = some y0 := hg 0 _ rfl
  have g1 : DataW.trod enc Tryz.prog W base spare held n 4 (([u0, u1, u2, u3, u4, u5, u6, u7, u8].drop 1).take (Tryz.prog.cellsOf 4)) = some y1 := hg 1 _ rfl
  have g2 : DataW.trod enc Tryz.prog W base spare held n 9 (([u0, u1, u2, u3, u4, u5, u6, u7, u8].drop 2).take (Tryz.prog.cellsOf 9)) = some y2 := hg 2 _ rfl
  have g3 : DataW.trod enc Tryz.prog W base spare held n 24 (([u0, u1, u2, u3, u4, u5, u6, u7, u8].drop 3).take (Tryz.prog.cellsOf 24)) = some y3 := hg 3 _ rfl
  have g4 : DataW.trod enc Tryz.prog W base spare held n 22 (([u0, u1, u2, u3, u4, u5, u6, u7, u8].drop 5).take (Tryz.prog.cellsOf 22)) = some y4 := hg 4 _ rfl
  have g5 : DataW.trod enc Tryz.prog W base spare held n 24 (([u0, u1, u2, u3, u4, u5, u6, u7, u8].drop 6).take (Tryz.prog.cellsOf 24)) = some y5 := hg 5 _ rfl
  have g6 : DataW.trod enc Tryz.prog W base spare held n 22 (([u0, u1, u2, u3, u4, u5, u6, u7, u8].drop 8).take (Tryz.prog.cellsOf 22)) = some y6 := hg 6 _ rfl
  rw [cells3] at g0
  rw [cells4] at g1
  rw [cells9] at g2
  rw [cells24] at g3 g5
  rw [cells22] at g4 g6
  obtain ⟨kd, e0, _⟩ := DataW.trod_int Tryz.underlying3 g0
  obtain ⟨tr, e1, _⟩ := DataW.trod_bool Tryz.underlying4 g1
  obtain ⟨tx, e2, _⟩ := DataW.trod_string Tryz.underlying9 g2
  obtain ⟨neg, A, c, xs, e3, a1, a2, a3⟩ := open_number g3
  obtain ⟨A2, c2, zs, e4, a4, a5, _⟩ := open_words g4
  obtain ⟨ineg, A3, c3, xs3, e5, a6, a7, _⟩ := open_number g5
  obtain ⟨A4, c4, xs4, e6, a8, a9, _⟩ := open_words g6
  have f0 : u0 = .int .i64 kd := by simpa using e0
  have f1 : u1 = .bool tr := by simpa using e1
  have f2 : u2 = .string tx := by simpa using e2
  have f3 : u3 = .bool neg ∧ u4 = .slice A xs.length c := by simpa using e3
  have f5 : u5 = .slice A2 zs.length c2 := by simpa using e4
  have f6 : u6 = .bool ineg ∧ u7 = .slice A3 xs3.length c3 := by simpa using e5
  have f8 : u8 = .slice A4 xs4.length c4 := by simpa using e6
  obtain ⟨f3, f4⟩ := f3
  obtain ⟨f6, f7⟩ := f6
  subst f0 f1 f2 f3 f4 f5 f6 f7 f8
  exact ⟨kd, tr, tx, neg, A, c, xs, A2, c2, zs, ineg, A3, c3, xs3, A4, c4, xs4, rfl, a1, a2, a3, a4, a5, a6, a7, a8, a9⟩
end

theorem g_range : Tryz.prog.globalNamed "strconv.ErrRange" = some 2 := by kernel_rfl
theorem g_eof : Tryz.prog.globalNamed "io.EOF" = some 1 := by kernel_rfl
theorem gt_range : (Tryz.prog.globals[2]?).map (·.type) = some 85 := by kernel_rfl
theorem gt_eof : (Tryz.prog.globals[1]?).map (·.type) = some 85 := by kernel_rfl
theorem star_err : "*" ++ "errors.errorString" = "*errors.errorString" := by decide
theorem row279 (u : TypeId) (h : Tryz.prog.typeName? 3 u = some "*errors.errorString") : u = 279 :=
  typeName_ptr_named (nm := "errors.errorString") (by rw [star_err]; kernel_rfl) (by kernel_rfl) (by decide) u (by rw [star_err]; exact h)

theorem eof_of {W : World} (hL : laidMet Tryz.prog Rows.fnLiteralIntRow.laid W) : ∃ pa, Eof W pa := by
  obtain ⟨a0, s0, hv0, _⟩ := laid_sentinel hL.tail.tail.tail.tail.tail.tail g_eof gt_eof Tryz.underlying85 row279 Tryz.underlying279 Tryz.underlying281 rfl rfl Tryz.underlying9 cells281 cells9
  refine ⟨a0, ?_⟩
  unfold Eof
  simpa using World.var?_cell g_eof hv0 0
theorem range_of {W : World} (hL : laidMet Tryz.prog Rows.fnLiteralIntRow.laid W) : ∃ pa : Addr, W.cell? ⟨2, 0, none⟩ = some (.iface 279 (.pointer (some pa))) := by
  obtain ⟨a0, s0, hv0, _⟩ := laid_sentinel hL.tail.tail.tail.tail g_range gt_range Tryz.underlying85 row279 Tryz.underlying279 Tryz.underlying281 rfl rfl Tryz.underlying9 cells281 cells9
  exact ⟨a0, by simpa using World.var?_cell g_range hv0 0⟩
end Go.Proofs.YtgpoplfgngiilaaGreatDoor

namespace Go.Proofs.YtgpoplfgngiilaaGreatDoor
open Go.ChangeShapes Go.WideShapes Go.ChangeAt Go.RowKit Go.Lib

theorem int_own : ownKnob Tryz.prog.godebug = none := by kernel_rfl
theorem int_laidOut : laidOutB Tryz.prog = true := by kernel_rfl

theorem int_trodVars_length {H : Type} {enc : TypeId × Value → H} {P : Program} {W : World} {f : Nat → Bool} : ∀ {ns : List String} {gs : List (DataW H)} {ps : List MemPlace}, DataW.TrodVars enc P W f ns gs ps → gs.length = ns.length
  | [], [], _, _ => rfl
  | [], _ :: _, _, h => h.elim
  | _ :: _, [], _, h => h.elim
  | n :: ns, d :: ds, ps, h => by
    obtain ⟨g, t, cs, fuel, p, q, h1, h2, h3, h4, hs, e⟩ := h
    rw [List.length_cons, List.length_cons, int_trodVars_length hs]

set_option maxRecDepth 100000 in
theorem int_lifted (os : Os) (started : os.Started) (H : Type) (enc : TypeId × Value → H) :
    ReturnsInHanded {} Tryz.checked os 3 .any (fun w args => (Rows.fnLiteralIntSpec.pre enc Tryz.prog Tryz.f3 [] false w args ∧ laidMetH Tryz.prog Rows.fnLiteralIntRow.laid w) ∧ sizedMet enc Tryz.prog Tryz.f3 (OpenSpec.ofChange Rows.fnLiteralIntSpec) false w args)
      (Rows.fnLiteralIntSpec.post enc Tryz.prog Tryz.f3 false true false false) := by
  refine returnsInHanded_of_change_and (C := Tryz.checked) (X := fun w _ => laidMetH Tryz.prog Rows.fnLiteralIntRow.laid w) (fun _ _ _ hh h => h.of_heap hh) int_own started (by kernel_rfl) Tryz.func3
    (ChangeSpec.witness_shaped (enc := enc) (C := Tryz.checked) (os := os) (X := fun w _ => laidMetH Tryz.prog Rows.fnLiteralIntRow.laid w) false (World.laidAll Tryz.prog os Rows.fnLiteralIntRow.laid) #[.agg #[.int .i64 0, .bool false, .string ⟨#[]⟩, .bool false, .slice none 0 0, .slice none 0 0, .bool false, .slice none 0 0, .slice none 0 0], .int .u8 0, .bool false, .bool false] 8 (World.laidAll_os _ _ _)
      (World.shaped_of_ZipB (by kernel_rfl) (by kernel_rfl)) (by kernel_rfl) (by kernel_rfl) (by kernel_rfl)
      (by rw [MakeChecks.laidMetH_plain _ _ _ (by kernel_rfl)]; exact laidMet_laidAll _ (by kernel_rfl) (by kernel_rfl))) ?_
  intro W base args ds gs before hval0 hW _ _ hL _
  have hval : ∀ (j : Nat) t v, Tryz.f3.params[j]? = some t → args[j]? = some v → Value.okWide Tryz.prog W .any base t v := hval0
  have hW' := hW
  obtain ⟨p, q, hA0, hV, rfl, _, _⟩ := hW
  have hA : DataW.TrodAll enc Tryz.prog W 0 (fun _ => true) true Tryz.f3.params.toList args.toList ds p := hA0
  rw [Tryz.params3] at hA hval
  obtain ⟨v0, v1, v2, v3, d0, d1, d2, d3, p0, p1, p2, p3, rfl, rfl, rfl, h0, h1, h2, h3⟩ := trodAll_four hA
  obtain ⟨y, rfl, rfl, rfl, wy⟩ := open_int Tryz.underlying5 (hval 1 5 v1 rfl rfl) h1
  obtain ⟨great, rfl, rfl, rfl⟩ := open_bool Tryz.underlying4 (hval 2 4 v2 rfl rfl) h2
  obtain ⟨split, rfl, rfl, rfl⟩ := open_bool Tryz.underlying4 (hval 3 4 v3 rfl rfl) h3
  have k0 := h0
  have lt0 : ∀ x ∈ p0, x.block < W.heap.size := by obtain ⟨m, hm⟩ := k0; exact DataW.trod_lt m _ _ _ hm
  obtain ⟨kd, tr, tx, neg, A, c, xs, A2, c2, zs, ineg, A3, c3, xs3, A4, c4, xs4, rfl, a1, a2, a3, a4, a5, a6, a7, a8, a9⟩ := open_value (hval 0 26 v0 rfl rfl) h0
  have hy : 0 ≤ y ∧ y ≤ 255 := by simpa [Lit.wf, IntKind.min, IntKind.max, IntKind.signed, IntKind.bits] using wy
  rw [MakeChecks.laidMetH_plain _ _ _ (by kernel_rfl)] at hL
  obtain ⟨pa, he⟩ := eof_of hL
  obtain ⟨pb, hr⟩ := range_of hL
  refine (int_law kd tr tx neg A c xs A2 c2 zs ineg A3 c3 xs3 A4 c4 xs4 y great split W a2 a1 a5 a4 a7 a6 a9 a8 a3 hy.1 (by omega) pa _ he hr (.inr ⟨_, _, rfl⟩)).mono fun e W' ⟨he, hb⟩ => ?_
  subst he
  obtain ⟨g1, g2, g3, g4, g5, g6, g7, rfl⟩ := list_7 (int_trodVars_length hV)
  exact ⟨_, rfl, _, _, _, [], _, q, hW', trodAll_mk1 (shut_bool Tryz.underlying4 _), trodAll_cons_mk (Below.trod int_laidOut (by kernel_rfl) (of_decide_eq_true (by kernel_rfl)) k0 hb lt0) (trodAll_cons_mk (shut_int Tryz.underlying5 wy) (trodAll_cons_mk (shut_bool Tryz.underlying4 _) (trodAll_cons_mk (shut_bool Tryz.underlying4 _) trodAll_mk0))), hb.trodVars int_laidOut (by kernel_rfl) hV, hb.frame _, fun h => by cases h⟩

theorem int_holds : Rows.FnLiteralIntSaid :=
  OpenClaim.holds_of_wide 3 Tryz.f3 rfl rfl rfl rfl rfl rfl rfl ⟨rfl, rfl, rfl, rfl, rfl⟩ rfl rfl rfl rfl rfl int_named Tryz.func3 int_closed int_inst int_wrap
    (fun os started H enc _ => int_lifted os started H enc)

theorem fnLiteralIntCard_holds : Rows.FnLiteralIntCardSaid :=
  Claim7.holds_tied_plain_at .later [] [.data, .data, .data, .data, .sentinel, .sentinel, .sentinel, .data, .sentinel, .sentinel, .data, .data, .data, .data, .pinned] true (true, "8fffb0e42caece08a6f7f5f3c146177005e17b7e3568915d68f8fc414b808779") true int_holds (fun _ h => by cases h) int_wf (fun _ h => by cases h) fnLiteralInt_row_tie rfl ⟨rfl, rfl⟩ int_main rfl
    (fun f fn hf hfn => by
      obtain rfl : f = 3 := Option.some.inj (int_named.symm.trans hf) |>.symm
      obtain rfl : fn = Tryz.f3 := (Option.some.inj (Tryz.func3.symm.trans hfn)).symm
      exact ⟨int_looks, fun j t ht => by
        rw [Tryz.params3] at ht
        have hm : t ∈ [26, 5, 4, 4] := by simpa using Array.mem_of_getElem? ht
        have hall := int_stand
        exact (show Tryz.prog.wantsStandIn t = false by simpa using List.all_eq_true.1 hall t hm)⟩)
    int_goes
#print axioms fnLiteralIntCard_holds
end Go.Proofs.YtgpoplfgngiilaaGreatDoor
