/- internal/strconv's ParseInt at base 0 and 64 bits, at a text without a sign, out of what ParseUint answers. DERIVED: THE SHELF's CONTRACTS AT THIS DUMP, IN PLAIN WORDS (tools/lay-plain.mjs out of 'TryzShelfB.lean', which tools/lay-shelf.mjs wrote): THE SAME DECLARATIONS UNDER THE SAME NAMES: 'import', 'namespace', 'open', 'def', 'theorem' AND NOTHING ELSE: no command of the shelf's: FOR A HAND-IN. Each laying: the table of numbers ('.._ren') and one theorem, a field a fact of the dump's own or the kernel's comparison; each contract: ONE APPLICATION. strconv.ParseInt at base 0 and 64 bits, at a text without a sign: the number if it fits, else an error. -/
import Derived.Test.YtgpoplfgngiilaaGreatDoorUo
import Derived.Lib.IfaceNeq
import Derived.Shelf.Strconv.ToErrorRange
import Derived.Test.YtgpoplfgngiilaaGreatDoorProg
set_option linter.unusedVariables false
set_option linter.unusedSimpArgs false
namespace Go.Proofs.YtgpoplfgngiilaaGreatDoor
open Go.RowKit Go.Proofs.YtgpoplfgngiilaaGreatDoorW.PrintWords Go.Proofs.YtgpoplfgngiilaaGreatDoorW.PrintLast Go.Proofs.YtgpoplfgngiilaaGreatDoorW.PrintMore PAll Pl

/-- What ParseInt answers. -/
def PiOk (V : Nat) (w : World) (e : Ending) (w' : World) : Prop :=
  (V < 9223372036854775808 ∧ e = .returned (.tuple #[.int .i64 V, .nilIface]) ∨ 9223372036854775808 ≤ V ∧ e = .returned (.tuple #[.int .i64 9223372036854775807, .iface 176 (.int .i64 1)])) ∧ Below w.heap.size w w'

set_option maxHeartbeats 2000000 in
set_option maxRecDepth 100000 in
theorem pint_any (s : ByteArray) (V : Nat) (w : World) (hs : 0 < s.size) (h45 : bt s 0 ≠ 45) (h43 : bt s 0 ≠ 43) (h98 : Calls Tryz.prog 98 #[.string s, .int .i64 0, .int .i64 64] w (PuOk V w)) :
    Calls Tryz.prog 64 #[.string s, .int .i64 0, .int .i64 64] w (PiOk V w) := by
  have hx0 : ∀ h : 0 < s.size, ((s[0]'h).toNat : Int) = bt s 0 := bt_at s 0
  have hne : s.toList.isEmpty = false := by rw [ByteArray.toList_eq]; cases hl : s.data.toList with | nil => exact absurd hs (by simp [ByteArray.size, ← Array.length_toList, hl]) | cons _ _ => rfl
  have b1 : (bt s 0 == 45) = false := by simpa using h45
  have b2 : (bt s 0 == 43) = false := by simpa using h43
  have H := Aside0.mk h98
  clear h98 h45 h43
  go_enter Tryz.func64, Tryz.ntmps64
  go_wp2_with fail
  refine H.out.mono ?_
  rintro e w1 ⟨⟨hV, rfl⟩ | ⟨hV, rfl⟩, hb⟩
  · have HB := Aside0.mk hb
    obtain ⟨m, hm⟩ : ∃ m : Int, (V : Int) = m := ⟨_, rfl⟩
    rw [hm]
    have hm0 : 0 ≤ m := by omega
    have hm1 : m < 18446744073709551616 := by omega
    have HM := Aside0.mk hm
    clear hm hV hb
    by_cases hlt : m < 9223372036854775808
    · have b5 : decide (9223372036854775808 ≤ m) = false := decide_eq_false (by omega)
      go_wp2_with fail
      refine bodyPost_ret (results_tmp2 rfl _ _ _) rfl ?_
      exact ⟨.inl ⟨by have := HM.out; omega, by rw [HM.out]; rfl⟩, HB.out⟩
    · have b5 : decide (9223372036854775808 ≤ m) = true := decide_eq_true (by omega)
      go_wp2_with fail
      refine bodyPost_ret (results_tmp2 rfl _ _ _) rfl ?_
      exact ⟨.inr ⟨by have := HM.out; omega, rfl⟩, HB.out⟩
  · have HB := Aside0.mk hb
    clear hb
    have hq : ∀ W, (binOp .neq 85 (.iface 176 (.int .i64 1)) (.iface 176 (.int .i64 1))).run Tryz.prog W = .ok (.bool false) W := fun W => Lib.run_neq_iface_int (P := Tryz.prog) W (t := 85) (tx := 176) (q := .i64) 1 1 Tryz.underlying85 (by kernel_rfl) Tryz.underlying176
    go_wp2_with fail
    refine bodyPost_ret (results_tmp2 rfl _ _ _) rfl ?_
    exact ⟨.inr ⟨by omega, rfl⟩, HB.out⟩
end Go.Proofs.YtgpoplfgngiilaaGreatDoor

namespace Go.Proofs
open Go.Shelf
def Tryz.lays245_ren : Go.Shelf.Ren := ⟨fun | 245 => 65 | 279 => 99 | 280 => 100 | 281 => 101 | 282 => 102 | 316 => 142 | 171 => 144 | 205 => 143 | 243 => 196 | 246 => 239 | 283 => 262 | 284 => 263 | 285 => 264 | 286 => 265 | 129 => 277 | 317 => 281 | 318 => 282 | 319 => 283 | 320 => 209 | 337 => 248 | 338 => 249 | n => n, fun | 9 => 9 | 3 => 3 | 75 => 85 | 167 => 176 | 4 => 4 | 168 => 179 | 210 => 230 | 37 => 44 | 0 => 0 | 127 => 266 | 145 => 281 | 143 => 279 | 2 => 2 | 171 => 329 | 53 => 47 | 5 => 5 | 173 => 331 | 212 => 346 | 51 => 41 | 20 => 20 | 213 => 347 | 46 => 50 | 232 => 340 | 233 => 341 | 80 => 110 | n => n, fun | 15 => 0 | 16 => 2 | 17 => 15 | 18 => 13 | 19 => 14 | n => n⟩
theorem Tryz.lays245 : Go.Proofs.LaysC.n245 Tryz.prog Tryz.lays245_ren := {
  mixed := by kernel_rfl
  f129 := Tryz.func277.trans (congrArg some (by kernel_rfl))
  f171 := Tryz.func144.trans (congrArg some (by kernel_rfl))
  f205 := Tryz.func143.trans (congrArg some (by kernel_rfl))
  f243 := Tryz.func196.trans (congrArg some (by kernel_rfl))
  f245 := Tryz.func65.trans (congrArg some (by kernel_rfl))
  f246 := Tryz.func239.trans (congrArg some (by kernel_rfl))
  f279 := Tryz.func99.trans (congrArg some (by kernel_rfl))
  f280 := Tryz.func100.trans (congrArg some (by kernel_rfl))
  f281 := Tryz.func101.trans (congrArg some (by kernel_rfl))
  f282 := Tryz.func102.trans (congrArg some (by kernel_rfl))
  f283 := Tryz.func262.trans (congrArg some (by kernel_rfl))
  f284 := Tryz.func263.trans (congrArg some (by kernel_rfl))
  f285 := Tryz.func264.trans (congrArg some (by kernel_rfl))
  f286 := Tryz.func265.trans (congrArg some (by kernel_rfl))
  f316 := Tryz.func142.trans (congrArg some (by kernel_rfl))
  f317 := Tryz.func281.trans (congrArg some (by kernel_rfl))
  f318 := Tryz.func282.trans (congrArg some (by kernel_rfl))
  f319 := Tryz.func283.trans (congrArg some (by kernel_rfl))
  f320 := Tryz.func209.trans (congrArg some (by kernel_rfl))
  f337 := Tryz.func248.trans (congrArg some (by kernel_rfl))
  f338 := Tryz.func249.trans (congrArg some (by kernel_rfl))
  t0 := Tryz.underlying0
  a0 := Tryz.isAgg0
  z0 := Tryz.sizeOf0
  v0 := Tryz.zeroValue0
  t2 := Tryz.underlying2
  a2 := Tryz.isAgg2
  z2 := Tryz.sizeOf2
  v2 := Tryz.zeroValue2
  t3 := Tryz.underlying3
  a3 := Tryz.isAgg3
  z3 := Tryz.sizeOf3
  v3 := Tryz.zeroValue3
  t4 := Tryz.underlying4
  a4 := Tryz.isAgg4
  z4 := Tryz.sizeOf4
  v4 := Tryz.zeroValue4
  t5 := Tryz.underlying5
  a5 := Tryz.isAgg5
  z5 := Tryz.sizeOf5
  v5 := Tryz.zeroValue5
  t9 := Tryz.underlying9
  a9 := Tryz.isAgg9
  z9 := Tryz.sizeOf9
  v9 := Tryz.zeroValue9
  t20 := Tryz.underlying20
  a20 := Tryz.isAgg20
  z20 := Tryz.sizeOf20
  v20 := Tryz.zeroValue20
  t37 := Tryz.underlying44
  a37 := Tryz.isAgg44
  z37 := Tryz.sizeOf44
  v37 := Tryz.zeroValue44
  t46 := Tryz.underlying50
  a46 := Tryz.isAgg50
  z46 := Tryz.sizeOf50
  v46 := Tryz.zeroValue50
  t51 := Tryz.underlying41
  a51 := Tryz.isAgg41
  z51 := Tryz.sizeOf41
  v51 := Tryz.zeroValue41
  t53 := Tryz.underlying47
  a53 := Tryz.isAgg47
  z53 := Tryz.sizeOf47
  v53 := Tryz.zeroValue47
  t75 := Tryz.underlying85
  a75 := Tryz.isAgg85
  z75 := Tryz.sizeOf85
  v75 := Tryz.zeroValue85
  t127 := Tryz.underlying266
  a127 := Tryz.isAgg266
  z127 := Tryz.sizeOf266
  v127 := Tryz.zeroValue266
  t143 := Tryz.underlying279
  a143 := Tryz.isAgg279
  z143 := Tryz.sizeOf279
  v143 := Tryz.zeroValue279
  t145 := Tryz.underlying281
  a145 := Tryz.isAgg281
  z145 := Tryz.sizeOf281
  v145 := Tryz.zeroValue281
  t167 := Tryz.underlying176
  a167 := Tryz.isAgg176
  z167 := Tryz.sizeOf176
  v167 := Tryz.zeroValue176
  t168 := Tryz.underlying179
  a168 := Tryz.isAgg179
  z168 := Tryz.sizeOf179
  v168 := Tryz.zeroValue179
  t171 := Tryz.underlying329
  a171 := Tryz.isAgg329
  z171 := Tryz.sizeOf329
  v171 := Tryz.zeroValue329
  t173 := Tryz.underlying331
  a173 := Tryz.isAgg331
  z173 := Tryz.sizeOf331
  v173 := Tryz.zeroValue331
  t210 := Tryz.underlying230
  a210 := Tryz.isAgg230
  z210 := Tryz.sizeOf230
  v210 := Tryz.zeroValue230
  t212 := Tryz.underlying346
  a212 := Tryz.isAgg346
  z212 := Tryz.sizeOf346
  v212 := Tryz.zeroValue346
  t213 := Tryz.underlying347
  a213 := Tryz.isAgg347
  z213 := Tryz.sizeOf347
  t232 := Tryz.underlying340
  a232 := Tryz.isAgg340
  z232 := Tryz.sizeOf340
  v232 := Tryz.zeroValue340
  t233 := Tryz.underlying341
  a233 := Tryz.isAgg341
  z233 := Tryz.sizeOf341
  v233 := Tryz.zeroValue341
  g15 := by kernel_rfl
  g16 := by kernel_rfl
  g17 := by kernel_rfl
  g18 := by kernel_rfl
  g19 := by kernel_rfl
  t80 := Tryz.underlying110
  a80 := Tryz.isAgg110
  z80 := Tryz.sizeOf110
  v80 := Tryz.zeroValue110
  i0 := by kernel_rfl
  i2 := by kernel_rfl
  i3 := by kernel_rfl
  i4 := by kernel_rfl
  i5 := by kernel_rfl
  i9 := by kernel_rfl
  i20 := by kernel_rfl
  i37 := by kernel_rfl
  i46 := by kernel_rfl
  i51 := by kernel_rfl
  i53 := by kernel_rfl
  i75 := by kernel_rfl
  i80 := by kernel_rfl
  i127 := by kernel_rfl
  i143 := by kernel_rfl
  i145 := by kernel_rfl
  i167 := by kernel_rfl
  i168 := by kernel_rfl
  i171 := by kernel_rfl
  i173 := by kernel_rfl
  i210 := by kernel_rfl
  i212 := by kernel_rfl
  i232 := by kernel_rfl
  i233 := by kernel_rfl
  m15 := by kernel_rfl
  m16 := by kernel_rfl
  m17 := by kernel_rfl
  m18 := by kernel_rfl
  m19 := by kernel_rfl
  c0 := by kernel_rfl
  c2 := by kernel_rfl
  c3 := by kernel_rfl
  c4 := by kernel_rfl
  c5 := by kernel_rfl
  c9 := by kernel_rfl
  c20 := by kernel_rfl
  c37 := by kernel_rfl
  c46 := by kernel_rfl
  c51 := by kernel_rfl
  c53 := by kernel_rfl
  c75 := by kernel_rfl
  c80 := by kernel_rfl
  c127 := by kernel_rfl
  c143 := by kernel_rfl
  c145 := by kernel_rfl
  c167 := by kernel_rfl
  c168 := by kernel_rfl
  c171 := by kernel_rfl
  c173 := by kernel_rfl
  c210 := by kernel_rfl
  c212 := by kernel_rfl
  c213 := by kernel_rfl
  c232 := by kernel_rfl
  c233 := by kernel_rfl }
open Go.RowKit in
/-- strconv.toError, at the inner package's ErrRange. (LAID.) -/
theorem Tryz.strconv_toError_range (fn s : ByteArray) (base bits : Int) (ev : Value) (w : World) (hlim : s.size ≤ 281474976710656) (hv : w.cell? ⟨2, 0, none⟩ = some ev) (hev : ev = .nilIface ∨ ∃ te pe, ev = .iface te pe) :
    Calls Tryz.prog 65 #[.string fn, .string s, .int .i64 base, .int .i64 bits, .iface 176 (.int .i64 1)] w fun e w' => ∃ N, e = .returned (.iface 179 (.pointer (some ⟨N, 0, none⟩))) ∧ w.heap.size ≤ N ∧ w'.heap[N]? = some (.cells #[.string fn, .string s, ev] 230 (0, 0)) ∧ Below w.heap.size w w' := Any.strconv_toError_range Tryz.lays245 fn s base bits ev w hlim hv hev
end Go.Proofs

namespace Go.Proofs.YtgpoplfgngiilaaGreatDoor
open Go.RowKit Go.Proofs.YtgpoplfgngiilaaGreatDoorW.PrintWords PAll Pl

/-- What strconv.ParseInt answers. -/
def PsOk (V : Nat) (w : World) (e : Ending) (w' : World) : Prop :=
  (V < 9223372036854775808 ∧ e = .returned (.tuple #[.int .i64 V, .nilIface]) ∨ 9223372036854775808 ≤ V ∧ ∃ t v, e = .returned (.tuple #[.int .i64 9223372036854775807, .iface t v])) ∧ Below w.heap.size w w'

set_option maxHeartbeats 2000000 in
set_option maxRecDepth 100000 in
theorem sparse_any (s : ByteArray) (V : Nat) (ev : Value) (w : World) (hlim : s.size ≤ 100000) (hv : w.cell? ⟨2, 0, none⟩ = some ev) (hev : ev = .nilIface ∨ ∃ te pe, ev = .iface te pe) (h64 : Calls Tryz.prog 64 #[.string s, .int .i64 0, .int .i64 64] w (PiOk V w)) :
    Calls Tryz.prog 43 #[.string s, .int .i64 0, .int .i64 64] w (PsOk V w) := by
  have H := Aside0.mk h64
  have HE := Aside0.mk hv
  have HE2 := Aside0.mk hev
  clear h64 hv hev
  go_enter Tryz.func43, Tryz.ntmps43
  go_wp2_with fail
  refine H.out.mono ?_
  rintro e w1 ⟨⟨hV, rfl⟩ | ⟨hV, rfl⟩, hb⟩
  · have HB := Aside0.mk hb
    have HV := Aside0.mk hV
    clear hV hb
    go_wp2_with fail
    refine bodyPost_ret (results_tmp2 rfl _ _ _) rfl ?_
    exact ⟨.inl ⟨HV.out, rfl⟩, HB.out⟩
  · have HB := Aside0.mk hb
    have HV := Aside0.mk hV
    clear hV hb
    go_wp2_with fail
    refine (Tryz.strconv_toError_range _ s 0 64 ev w1 (by omega) (pw_cell_below HB.out HE.out) HE2.out).mono ?_
    rintro e w2 ⟨g, rfl, _, _, hb2⟩
    have HB2 := Aside0.mk (below_step HB.out hb2)
    clear hb2
    go_wp2_with fail
    refine bodyPost_ret (results_tmp2 rfl _ _ _) rfl ?_
    exact ⟨.inr ⟨HV.out, _, _, rfl⟩, HB2.out⟩
end Go.Proofs.YtgpoplfgngiilaaGreatDoor
