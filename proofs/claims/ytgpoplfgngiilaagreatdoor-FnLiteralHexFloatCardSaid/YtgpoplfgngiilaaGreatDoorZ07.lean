/- Plain laws on words of 64 bits: a word times a word and a carry; a number times a word, word by word; a number shifted to the right, word by word; what is left when words 0 at the end are struck. The contract of math/bits.Mul at this program (out of the shelf's lay-plain tool). A word times a word and a word: mulAddWWW_g. nat's make, norm, mulAddVWW over blocks of words. nat's mulAddWW: a number times a word and a word. maxPow at 10 and 8; pow at the bases 2, 8, 10, 16. slices.Reverse at words; rshVU; nat's rsh in its own room. strings.Reader's ReadByte, over the reader's block. scanSign over a strings.Reader. DERIVED: THE SHELF's CONTRACTS AT THIS DUMP, IN PLAIN WORDS (tools/lay-plain.mjs out of 'TryzShelfL.lean', which tools/lay-shelf.mjs wrote): THE SAME DECLARATIONS UNDER THE SAME NAMES: 'import', 'namespace', 'open', 'def', 'theorem' AND NOTHING ELSE: no command of the shelf's: FOR A HAND-IN. Each laying: the table of numbers ('.._ren') and one theorem, a field a fact of the dump's own or the kernel's comparison; each contract: ONE APPLICATION. bitsDiv64 and bitsDiv where the high word is 0: the quotient and the rest of two words. Plain laws of the division of two words by one: by a reciprocal (at most two steps short), and figure by figure in base 2^32 (a guess, and steps down). Plain laws of the division of two words by one, as divWW has it: the words shifted up, the guess by the reciprocal, its rest, one or two steps. -/
import Derived.Test.YtgpoplfgngiilaaGreatDoorZ06
import Derived.Shelf.Bits.Mul64
import Derived.Test.YtgpoplfgngiilaaGreatDoorProg
import Derived.Laws.Externs
import Derived.RegionTactic
import Derived.BigRegion
import Derived.Lib.EndianBits
import Derived.Shelf.Small.Bits
import Derived.Shelf.LaysM
import Derived.Shelf.LaysC
import Derived.Lib.ItoaNum
import Derived.RowKit3
set_option linter.unusedVariables false
set_option linter.unusedSimpArgs false
namespace Go.Proofs.YtgpoplfgngiilaaGreatDoor.Pl
open Go.RowKit Go.Proofs.YtgpoplfgngiilaaGreatDoorW.PrintWords

theorem val_zero {B : Int} : ∀ {xs : List Int}, (∀ x ∈ xs, x = 0) → val B xs = 0
  | [], _ => rfl
  | x :: xs, h => by
    rw [val_cons, h x (by simp), val_zero (fun y hy => h y (by simp [hy]))]; simp

/-- Words 0 at the end are struck. -/
theorem figs_of_trim {B : Nat} (hB : 2 ≤ B) {xs : List Int} (hd : Dg B xs) (i : Nat) (hi : i ≤ xs.length) (hz : ∀ j, i ≤ j → j < xs.length → xs.getD j 0 = 0) (ht : i = 0 ∨ xs.getD (i - 1) 0 ≠ 0) :
    xs.take i = figs B (val B xs).toNat := by
  have h1 : val B xs = val B (xs.take i) := by
    conv => lhs; rw [← List.take_append_drop i xs]
    rw [val_append, val_zero (xs := xs.drop i) (fun x hx => ?_)]
    · simp
    · obtain ⟨j, hj, rfl⟩ := List.mem_iff_getElem.1 hx
      have hj' : i + j < xs.length := by simpa [Nat.lt_sub_iff_add_lt, Nat.add_comm] using hj
      have := hz (i + j) (by omega) hj'
      rw [List.getD_eq_getElem?_getD, List.getElem?_eq_getElem hj'] at this
      simpa using this
  rw [h1]
  refine figs_uniq hB (Dg_take hd i) ?_
  intro hl
  rcases ht with h0 | h0
  · subst h0; simp at hl
  · apply h0
    have hl2 : (xs.take i).length = i := by rw [List.length_take]; omega
    rw [List.getLast?_eq_getElem?, hl2] at hl
    have hip : 0 < i := by
      rcases Nat.eq_zero_or_pos i with h | h
      · subst h; simp at hl
      · exact h
    rw [List.getElem?_take, if_pos (by omega)] at hl
    rw [List.getD_eq_getElem?_getD, hl]; rfl

/-- A number shifted to the right: the next word. -/
theorem shr_step {B P Q : Int} {xs outs : List Int} {k : Nat} {a r0 q r : Int} (hPQ : P * Q = B) (hk : k + 1 < xs.length) (hl : outs.length = k) (h : val B (xs.take (k + 1)) = P * (val B outs + B ^ k * a) + r0) (hx : xs.getD (k + 1) 0 = P * q + r) :
    val B (xs.take (k + 2)) = P * (val B (outs ++ [a + r * Q]) + B ^ (k + 1) * q) + r0 := by
  have hlt : (xs.take (k + 1)).length = k + 1 := by rw [List.length_take]; omega
  rw [rd_take hk, val_append, val_append, hl, hlt, h, hx, Int.pow_succ]
  simp only [val, Int.mul_zero, Int.add_zero]
  subst hPQ
  grind
theorem shr_first {B P : Int} {x : Int} {xs : List Int} (hx : 0 < xs.length) (hP : xs.getD 0 0 = x) : val B (xs.take 1) = P * (val B [] + B ^ 0 * (x / P)) + x % P := by
  have h1 : xs.take 1 = [x] := by
    cases xs with
    | nil => simp at hx
    | cons a l => simp at hP; subst hP; rfl
  rw [h1]
  simp only [val, Int.mul_zero, Int.add_zero, Int.pow_zero, Int.one_mul, Int.zero_add]
  exact (Int.mul_ediv_add_emod x P).symm
theorem shr_last {B P : Int} {xs outs : List Int} {k : Nat} {a r0 : Int} (hP : 0 < P) (hl : outs.length = k) (hr0 : 0 ≤ r0) (hr1 : r0 < P) (h : val B xs = P * (val B outs + B ^ k * a) + r0) : val B (outs ++ [a]) = val B xs / P := by
  rw [h, val_append, hl]
  simp only [val, Int.mul_zero, Int.add_zero]
  rw [Int.mul_add_ediv_left _ _ (by omega), Int.ediv_eq_zero_of_lt hr0 hr1, Int.add_zero]

/-- Words with the highest first. -/
theorem val_rev_snoc (B : Int) (ws : List Int) (d : Int) : val B (ws ++ [d]).reverse = d + B * val B ws.reverse := by
  rw [List.reverse_append, List.reverse_singleton, List.singleton_append, val_cons]
end Go.Proofs.YtgpoplfgngiilaaGreatDoor.Pl

namespace Go.Proofs
open Go.Shelf
open Go.RowKit Go.Lib in
def Tryz.lays212_ren : Go.Shelf.Ren := ⟨fun | 212 => 253 | 263 => 278 | 264 => 279 | n => n, fun | 46 => 50 | 51 => 41 | 146 => 333 | 53 => 47 | 148 => 335 | n => n, fun | n => n⟩
theorem Tryz.lays212 : Go.Proofs.Lays.n212 Tryz.prog Tryz.lays212_ren := {
  mixed := by kernel_rfl
  f212 := Tryz.func253.trans (congrArg some (by kernel_rfl))
  f263 := Tryz.func278.trans (congrArg some (by kernel_rfl))
  f264 := Tryz.func279.trans (congrArg some (by kernel_rfl))
  t46 := Tryz.underlying50
  a46 := Tryz.isAgg50
  z46 := Tryz.sizeOf50
  v46 := Tryz.zeroValue50
  t51 := Tryz.underlying41
  a51 := Tryz.isAgg41
  z51 := Tryz.sizeOf41
  v51 := Tryz.zeroValue41
  t53 := Tryz.underlying47
  a53 := Tryz.isAgg47
  z53 := Tryz.sizeOf47
  v53 := Tryz.zeroValue47
  t146 := Tryz.underlying333
  a146 := Tryz.isAgg333
  z146 := Tryz.sizeOf333
  v146 := Tryz.zeroValue333
  t148 := Tryz.underlying335
  a148 := Tryz.isAgg335
  z148 := Tryz.sizeOf335
  v148 := Tryz.zeroValue335 }
open Go.RowKit Go.Lib in
/-- math/bits.Mul: "Mul returns the full-width product of x and y": on a machine of 64 bits: Mul64's. (LAID: no walk: one application.) -/
theorem Tryz.bits_Mul (x y : Nat) (hx : x < 18446744073709551616) (hy : y < 18446744073709551616) (w : World) :
    Calls Tryz.prog 253 #[.int .u64 x, .int .u64 y] w fun e w' => e = .returned (.tuple #[.int .u64 ((x * y / 18446744073709551616 : Nat) : Int), .int .u64 ((x * y % 18446744073709551616 : Nat) : Int)]) ∧ w' = w := Any.bits_Mul Tryz.lays212 x y hx hy w
end Go.Proofs

namespace Go.Proofs.YtgpoplfgngiilaaGreatDoor
open Go.RowKit Go.Proofs.YtgpoplfgngiilaaGreatDoorW.PrintWords PAll Pl

end Go.Proofs.YtgpoplfgngiilaaGreatDoor

namespace Go.Proofs.YtgpoplfgngiilaaGreatDoor
open Go.RowKit Go.Proofs.YtgpoplfgngiilaaGreatDoorW.PrintWords PAll Pl

theorem info167 : (Tryz.prog.info? 167).map (fun i => (i.zero, i.size, i.bytes)) = some (some (.int .u64 0), 1, 8) := by kernel_rfl

theorem make_fit (A : Option Addr) (n c m : Nat) (w : World) (hm : m ≤ c) (hc : c ≤ 9223372036854775807) :
    Calls Tryz.prog 130 #[.slice A n c, .int .i64 m] w fun e w' => e = .returned (.slice A m c) ∧ w = w' := by
  have hm' : (m : Int) ≤ c := by omega
  go_enter Tryz.func130, Tryz.ntmps130
  go_wp2_with fail
  go_ret
  exact ⟨rfl, rfl⟩

theorem make_one (A : Option Addr) (w : World) :
    Calls Tryz.prog 130 #[.slice A 0 0, .int .i64 1] w fun e w' => e = .returned (.slice (some ⟨w.heap.size, 0, none⟩) 1 1) ∧ w.alloc (.cells #[.int .u64 0] 167) = w' := by
  have hmk : ∀ w, (Instr.makeSlice 114 (.int .i64 1) (.int .i64 1)).run Tryz.prog w = .ok (.slice (some ⟨w.heap.size, 0, none⟩) 1 1) (w.alloc (.cells #[.int .u64 0] 167)) := fun _ => by kernel_rfl
  go_enter Tryz.func130, Tryz.ntmps130
  go_wp2_with fail
  go_ret
  exact ⟨rfl, rfl⟩

theorem make_new (A : Option Addr) (n c m : Nat) (w : World) (hm : c < m) (hm1 : m ≠ 1) (hm2 : m ≤ 1000000) :
    Calls Tryz.prog 130 #[.slice A n c, .int .i64 m] w fun e w' => e = .returned (.slice (some ⟨w.heap.size, 0, none⟩) m (m + 4)) ∧ w.alloc (.cells (madeCells #[.int .u64 0] (m + 4)) 167) = w' := by
  have hm' : (c : Int) < m := by omega
  have b1 : ((m : Int) == 1) = false := by simp; omega
  have hmk : ∀ W : World, (Instr.makeSlice 114 (.int .i64 (m : Int)) (.int .i64 ((m : Int) + 4))).run Tryz.prog W = .ok (.slice (some ⟨W.heap.size, 0, none⟩) m (m + 4)) (W.alloc (.cells (madeCells #[.int .u64 0] (m + 4)) 167)) := by
    intro W
    obtain ⟨i0, hi, hz0, hz1, hz2⟩ := info_parts info167
    have h := run_make (P := Tryz.prog) W 114 167 i0 (.int .u64 0) Tryz.underlying114 hi hz0 .i64 .i64 m ((m : Int) + 4) (by omega) (by omega) (by rw [hz2]; omega) (by omega)
    rw [hz1, show ((m : Int) + 4).toNat = m + 4 by omega, Int.toNat_natCast, Nat.mul_one] at h
    exact h
  go_enter Tryz.func130, Tryz.ntmps130
  go_wp2_with fail
  go_ret
  exact ⟨rfl, rfl⟩

/-- Words 0 at the end are cut off. -/
def NmOk (g c n : Nat) (xs : List Int) (w : World) (e : Ending) (w' : World) : Prop :=
  ∃ i : Nat, i ≤ n ∧ (∀ j, i ≤ j → j < n → xs.getD j 0 = 0) ∧ (i = 0 ∨ xs.getD (i - 1) 0 ≠ 0) ∧ e = .returned (.slice (some ⟨g, 0, none⟩) i c) ∧ w = w'

set_option maxHeartbeats 1000000 in
theorem norm_any (g c n : Nat) (xs : List Int) (w : World) (hn : n ≤ c) (hc0 : 0 < c) (hc : c ≤ 9223372036854775807) (hx : ∀ i, i < n → w.cell? ⟨g, i, none⟩ = some (.int .u64 (xs.getD i 0))) :
    Calls Tryz.prog 134 #[.slice (some ⟨g, 0, none⟩) n c] w (NmOk g c n xs w) := by
  have HX := Lib.hid hx
  clear hx
  go_enter Tryz.func134, Tryz.ntmps134
  go_wp2_with fail
  go_loop [3] (fun i => ∃ k : Nat, k ≤ n ∧ i = .int .i64 k ∧ Aside0 (∀ j, k ≤ j → j < n → xs.getD j 0 = 0)) (fun i => (intOf i).toNat)
  case atStart => exact ⟨n, Nat.le_refl _, rfl, ⟨fun j h1 h2 => absurd h1 (by omega)⟩⟩
  case round =>
    obtain ⟨k, hk, rfl, hz⟩ := hrel
    rcases Nat.eq_zero_or_pos k with h0 | hp
    · subst h0
      go_wp2_with fail
      go_ret
      exact ⟨0, hk, hz.out, .inl rfl, rfl, rfl⟩
    · obtain ⟨j, rfl⟩ : ∃ j, k = j + 1 := ⟨k - 1, by omega⟩
      have hcj := HX.out j (by omega)
      have hd : decide ((0:Int) < ((j + 1 : Nat) : Int)) = true := decide_eq_true (by omega)
      have hj1 : ((j + 1 : Nat) : Int) - 1 = j := by omega
      obtain ⟨x, hxj⟩ : ∃ x, xs.getD j 0 = x := ⟨_, rfl⟩
      rw [hxj] at hcj
      have HXJ := Aside0.mk hxj
      clear hxj
      by_cases hx0 : x = 0
      · subst hx0
        go_wp2_with fail
        go_round
        case rel => exact ⟨j, by omega, by go_num, ⟨fun i h1 h2 => by
          rcases Nat.lt_or_ge j i with h | h
          · exact hz.out i (by omega) h2
          · rw [show i = j by omega]; exact HXJ.out⟩⟩
        case measure => simp [intOf]
      · have bx : (x == 0) = false := by simpa using hx0
        have HX0 := Aside0.mk hx0
        clear hx0
        go_wp2_with fail
        go_ret
        exact ⟨j + 1, hk, hz.out, .inr (by rw [show j + 1 - 1 = j from rfl, HXJ.out]; exact HX0.out), rfl, rfl⟩

/-- A row of words read cell by cell. -/
def Cw (w : World) (g n : Nat) (xs : List Int) : Prop := ∀ i, i < n → w.cell? ⟨g, i, none⟩ = some (.int .u64 (xs.getD i 0))

/-- A block of words after k of them were written. -/
def Wr (cs cs' : Array Value) (k : Nat) (outs : List Int) : Prop := cs'.size = cs.size ∧ outs.length = k ∧ (∀ i, i < k → cs'[i]? = some (.int .u64 (outs.getD i 0))) ∧ ∀ i, k ≤ i → cs'[i]? = cs[i]?

theorem Wr_zero (cs : Array Value) : Wr cs cs 0 [] := ⟨rfl, rfl, fun i h => absurd h (Nat.not_lt_zero _), fun _ _ => rfl⟩
theorem Wr_put {cs cs' : Array Value} {k : Nat} {outs : List Int} (h : Wr cs cs' k outs) (hk : k < cs.size) (x : Int) : Wr cs (cs'.setIfInBounds k (.int .u64 x)) (k + 1) (outs ++ [x]) := by
  obtain ⟨h1, h2, h3, h4⟩ := h
  refine ⟨by simpa using h1, by simp [h2], fun i hi => ?_, fun i hi => ?_⟩
  · rw [Array.getElem?_setIfInBounds]
    rcases Nat.lt_or_ge i k with hlt | hge
    · rw [if_neg (by omega), h3 i hlt, List.getD_eq_getElem?_getD, List.getD_eq_getElem?_getD, List.getElem?_append_left (by omega)]
    · obtain rfl : i = k := by omega
      rw [if_pos rfl, if_pos (by omega), List.getD_eq_getElem?_getD, List.getElem?_append_right (by omega), h2]
      simp
  · rw [Array.getElem?_setIfInBounds, if_neg (by omega), h4 i (by omega)]

end Go.Proofs.YtgpoplfgngiilaaGreatDoor

namespace Go.Proofs.YtgpoplfgngiilaaGreatDoor
open Go.RowKit Go.Proofs.YtgpoplfgngiilaaGreatDoorW.PrintWords PAll Pl

/-- A nat of the call's own: its words. -/
def Nt (w : World) (base : Nat) (v : Value) (xs : List Int) : Prop := w.ownsRow base 167 1 v xs.length (nums .u64 xs)

theorem Nt_form {w : World} {base : Nat} {v : Value} {xs : List Int} (h : Nt w base v xs) (hne : xs ≠ []) : ∃ g cap cur, v = .slice (some ⟨g, 0, none⟩) xs.length cap ∧ base ≤ g ∧ w.heap[g]? = some (.cells cur 167 (0, 0)) ∧ xs.length ≤ cap ∧ cap ≤ 9223372036854775807 ∧ cur.size = cap ∧ Cw w g xs.length xs := by
  rcases h.2 with ⟨_, h0⟩ | ⟨g, cap, cur, hv, hb, hg, hn, hm, hs, ht⟩
  · exact absurd (List.length_eq_zero_iff.1 h0) hne
  · refine ⟨g, cap, cur, hv, hb, hg, hn, by simpa [maxLen] using hm, by simpa using hs, fun i hi => ?_⟩
    rw [blk_cell hg i]
    have h1 : (cur.toList.take (xs.length * 1))[i]? = (nums .u64 xs)[i]? := by rw [ht]
    rw [List.getElem?_take, if_pos (by omega), Array.getElem?_toList] at h1
    rw [h1]
    simp [nums, List.getD_eq_getElem?_getD, List.getElem?_eq_getElem hi]

theorem Nt_mk {w : World} {base g cap : Nat} {cur : Array Value} {xs : List Int} (hb : base ≤ g) (hg : w.heap[g]? = some (.cells cur 167 (0, 0))) (hn : xs.length ≤ cap) (hm : cap ≤ 9223372036854775807) (hs : cur.size = cap)
    (hc : ∀ i, i < xs.length → cur[i]? = some (.int .u64 (xs.getD i 0))) : Nt w base (.slice (some ⟨g, 0, none⟩) xs.length cap) xs := by
  refine ⟨by simp [nums], .inr ⟨g, cap, cur, rfl, hb, hg, hn, by simpa [maxLen] using hm, by simpa using hs, ?_⟩⟩
  apply List.ext_getElem?
  intro i
  rcases Nat.lt_or_ge i xs.length with hi | hi
  · rw [List.getElem?_take, if_pos (by omega), Array.getElem?_toList, hc i hi]
    simp [nums, List.getD_eq_getElem?_getD, List.getElem?_eq_getElem hi]
  · rw [List.getElem?_take, if_neg (by omega)]
    simp [nums, hi]

theorem Nt_below {w w1 : World} {base : Nat} {v : Value} {xs : List Int} (h : Nt w base v xs) (hb : Below w.heap.size w w1) : Nt w1 base v xs := pw_own_below h hb

theorem setWord_nil (r : Nat) (w : World) (hr0 : 0 < r) :
    Calls Tryz.prog 117 #[.slice none 0 0, .int .u64 r] w fun e w' => e = .returned (.slice (some ⟨w.heap.size, 0, none⟩) 1 1) ∧ w.alloc (.cells #[.int .u64 r] 167) = w' := by
  have b : ((r : Int) == 0) = false := by simp; omega
  clear hr0
  go_enter Tryz.func117, Tryz.ntmps117
  go_wp2_with fail
  refine (make_one _ _).mono ?_
  rintro e w' ⟨rfl, rfl⟩
  go_wp2_with fail
  go_ret
  exact ⟨rfl, rfl⟩

theorem madeCells_size (m : Nat) : (madeCells #[.int .u64 0] (m + 4)).size = m + 4 := size_madeCells _ _

end Go.Proofs.YtgpoplfgngiilaaGreatDoor

namespace Go.Proofs.YtgpoplfgngiilaaGreatDoor
open Go.RowKit Go.Proofs.YtgpoplfgngiilaaGreatDoorW.PrintWords PAll Pl

theorem pow10_le : ∀ k : Fin 19, (10 : Int) ^ k.val ≤ 1844674407370955161 := by decide +kernel
set_option maxHeartbeats 1000000 in
theorem maxPow_10 (w : World) : Calls Tryz.prog 149 #[.int .u64 10] w fun e w' => e = .returned (.tuple #[.int .u64 10000000000000000000, .int .i64 19]) ∧ w = w' := by
  go_enter Tryz.func149, Tryz.ntmps149
  go_wp2_with fail
  go_loop [2, 3] (fun p n => ∃ (k : Nat) (P : Int), 1 ≤ k ∧ k ≤ 19 ∧ n = .int .i64 k ∧ p = .int .u64 P ∧ Aside0 (P = 10 ^ k)) (fun _ n => 19 - (intOf n).toNat)
  case atStart => exact ⟨1, 10, by omega, by omega, rfl, rfl, ⟨rfl⟩⟩
  case round =>
    obtain ⟨k, P, h1, h2, rfl, rfl, hP⟩ := hrel
    by_cases hlt : k < 19
    · have hle := pow10_le ⟨k, hlt⟩
      have hP0 : 0 ≤ P := by rw [hP.out]; exact Int.le_of_lt (Int.pow_pos (by decide))
      rw [← hP.out] at hle
      go_wp2_with fail
      go_round
      case rel => exact ⟨k + 1, P * 10, by omega, by omega, by go_num, rfl, ⟨by rw [hP.out, Int.pow_succ]⟩⟩
      case measure => simp [intOf]; omega
    · obtain rfl : k = 19 := by omega
      have hv : P = 10000000000000000000 := by rw [hP.out]; rfl
      subst hv
      go_wp2_with fail
      refine bodyPost_ret (results_tmp2 rfl _ _ _) rfl ?_
      exact ⟨rfl, rfl⟩

theorem pow_16 : ∀ n : Fin 16, bigall_pow.f 8 16 (n.val : Int) = some (16 ^ n.val) := by decide +kernel
end Go.Proofs.YtgpoplfgngiilaaGreatDoor

namespace Go.Proofs.YtgpoplfgngiilaaGreatDoor
open Go.RowKit Go.Proofs.YtgpoplfgngiilaaGreatDoorW.PrintWords PAll Pl

/-- What holds while Reverse runs. -/
structure RvIn (g n : Nat) (xs : List Int) (cs : Array Value) (w W : World) (i : Nat) (cs' : Array Value) : Prop where
  size : cs'.size = cs.size
  blk : W.heap[g]? = some (.cells cs' 167 (0, 0))
  cell : ∀ p, p < n → cs'[p]? = some (.int .u64 (if i ≤ p ∧ p + i < n then xs.getD p 0 else xs.getD (n - 1 - p) 0))
  only : w.grownBy W (some g)

theorem RvIn.drewN {g n : Nat} {xs : List Int} {cs : Array Value} {w W : World} {i : Nat} {cs' : Array Value} (h : RvIn g n xs cs w W i cs') (m : Nat) : RvIn g n xs cs w (W.drewN m) i cs' :=
  ⟨h.size, blk_drewN h.blk m, h.cell, only_drewN h.only m⟩
theorem RvIn.drew {g n : Nat} {xs : List Int} {cs : Array Value} {w W : World} {i : Nat} {cs' : Array Value} (h : RvIn g n xs cs w W i cs') : RvIn g n xs cs w W.drew i cs' := h.drewN 1

theorem RvIn.next {g n : Nat} {xs : List Int} {cs : Array Value} {w W : World} {k j : Nat} {cs' : Array Value} (h : RvIn g n xs cs w W k cs') (hn : n ≤ cs.size) (hkj : k + j + 1 = n) (hlt : k < j) (x y : Int) (hx : xs.getD k 0 = x) (hy : xs.getD j 0 = y) :
    RvIn g n xs cs w ((W.setCell ⟨g, k, none⟩ (.int .u64 y)).setCell ⟨g, j, none⟩ (.int .u64 x)) (k + 1) ((cs'.setIfInBounds k (.int .u64 y)).setIfInBounds j (.int .u64 x)) where
  size := by simp [h.size]
  blk := blk_set (blk_set h.blk k _) j _
  cell := fun p hp => by
    have hs := h.size
    rw [Array.getElem?_setIfInBounds, Array.getElem?_setIfInBounds]
    by_cases h1 : j = p
    · subst h1
      rw [if_pos rfl, if_pos (by simp; omega), if_neg (by omega), show n - 1 - j = k by omega, hx]
    · rw [if_neg h1]
      by_cases h2 : k = p
      · subst h2
        rw [if_pos rfl, if_pos (by omega), if_neg (by omega), show n - 1 - k = j by omega, hy]
      · rw [if_neg h2, h.cell p hp]
        by_cases h3 : k ≤ p ∧ p + k < n
        · rw [if_pos h3, if_pos (by omega)]
        · rw [if_neg h3, if_neg (by omega)]
  only := only_setCell (p := ⟨g, j, none⟩) (only_setCell (p := ⟨g, k, none⟩) h.only (.inl rfl) _) (.inl rfl) _

/-- What Reverse leaves. -/
def RvOk (g n : Nat) (xs : List Int) (cs : Array Value) (w : World) (e : Ending) (w' : World) : Prop :=
  e = .returned (.tuple #[]) ∧ ∃ cs' : Array Value, cs'.size = cs.size ∧ w'.heap[g]? = some (.cells cs' 167 (0, 0)) ∧ (∀ p, p < n → cs'[p]? = some (.int .u64 (xs.reverse.getD p 0))) ∧ w.grownBy w' (some g)

set_option maxHeartbeats 2000000 in
theorem reverse_any (g c n : Nat) (xs : List Int) (cs : Array Value) (w : World) (hn0 : 0 < n) (hn : n ≤ 100000) (hc : n ≤ c) (hl : xs.length = n) (hg : w.heap[g]? = some (.cells cs 167 (0, 0))) (hs : n ≤ cs.size) (hx : Cw w g n xs) :
    Calls Tryz.prog 152 #[.slice (some ⟨g, 0, none⟩) n c] w (RvOk g n xs cs w) := by
  have h0 : RvIn g n xs cs w w 0 cs := ⟨rfl, hg, fun p hp => by rw [if_pos (by omega), ← blk_cell hg p]; exact hx p hp, only_refl _ _⟩
  have H0 := Aside0.mk h0
  have HL := Aside0.mk hl
  have hn1 : (1 : Int) ≤ n := by omega
  clear hg hx h0 hl
  go_enter Tryz.func152, Tryz.ntmps152
  go_wp2_with fail
  go_loopw [2, 3] (fun i j W => ∃ (k l : Nat) (cs' : Array Value), Aside0 (k + l + 1 = n) ∧ k ≤ l + 1 ∧ l < n ∧ i = .int .i64 k ∧ j = .int .i64 l ∧ RvIn g n xs cs w W k cs') (fun i _ _ => n - (intOf i).toNat)
  case atStart => exact ⟨0, n - 1, cs, ⟨by omega⟩, by omega, by omega, rfl, (by rw [show ((n - 1 : Nat) : Int) = (n : Int) - 1 by omega]), H0.out⟩
  case round =>
    obtain ⟨k, l, cs', hkl, hk1, hln, rfl, rfl, hin⟩ := hrel
    have HI := Aside0.mk hin
    by_cases hlt : k < l
    · have hlt' : (k : Int) < l := by omega
      have hkn : (k : Int) < n := by omega
      have hln' : (l : Int) < n := by omega
      have hck : wr.cell? ⟨g, k, none⟩ = some (.int .u64 (xs.getD k 0)) := by rw [blk_cell hin.blk k, hin.cell k (by omega), if_pos (by have := hkl.out; omega)]
      have hcl : wr.cell? ⟨g, l, none⟩ = some (.int .u64 (xs.getD l 0)) := by rw [blk_cell hin.blk l, hin.cell l (by omega), if_pos (by have := hkl.out; omega)]
      have hfk : wr.frozen? ⟨g, k, none⟩ = false := blk_frozen hin.blk k
      have hfl : wr.frozen? ⟨g, l, none⟩ = false := blk_frozen hin.blk l
      obtain ⟨x, ex⟩ : ∃ x, xs.getD k 0 = x := ⟨_, rfl⟩
      obtain ⟨y, ey⟩ : ∃ y, xs.getD l 0 = y := ⟨_, rfl⟩
      rw [ex] at hck
      rw [ey] at hcl
      have HN := Aside0.mk (hin.next hs hkl.out hlt x y ex ey)
      have hne : k ≠ l := by omega
      clear hin ex ey
      go_wp2_with fail
      go_region
      go_wp2_with fail
      go_roundw
      case rel => exact ⟨k + 1, l - 1, _, ⟨by have := hkl.out; omega⟩, by omega, by omega, by go_num, by go_num, HN.out.drew⟩
      case measure => simp [intOf]; omega
    · clear hin
      have hge : (l : Int) ≤ k := by omega
      go_wp2_with fail
      go_end0
      have hin := HI.out
      have hkl := hkl.out
      have hl := HL.out
      refine ⟨rfl, cs', hin.size, hin.blk, fun p hp => ?_, hin.only⟩
      rw [hin.cell p hp]
      have hr : xs.reverse.getD p 0 = xs.getD (n - 1 - p) 0 := by
        rw [List.getD_eq_getElem?_getD, List.getD_eq_getElem?_getD, List.getElem?_reverse (by omega), hl]
      rw [hr]
      by_cases h1 : k ≤ p ∧ p + k < n
      · rw [if_pos h1]
        congr 3
        rw [show n - 1 - p = p by omega]
      · rw [if_neg h1]

/-- What rshVU leaves. -/
def RsOk (g m : Nat) (xs : List Int) (s : Nat) (cs : Array Value) (w : World) (e : Ending) (w' : World) : Prop :=
  ∃ (c : Int) (outs : List Int) (cs' : Array Value), e = .returned (.int .u64 c) ∧ Wr cs cs' m outs ∧ w'.heap[g]? = some (.cells cs' 167 (0, 0)) ∧ Dg (18446744073709551616 : Nat) outs ∧
    val (18446744073709551616 : Nat) outs = val (18446744073709551616 : Nat) xs / 2 ^ s ∧ w.grownBy w' (some g)

/-- What holds of the loop's number. -/
structure RsIn (g m : Nat) (xs : List Int) (s : Nat) (cs : Array Value) (w W : World) (k : Nat) (outs : List Int) (cs' : Array Value) : Prop where
  wr : Wr cs cs' k outs
  blk : W.heap[g]? = some (.cells cs' 167 (0, 0))
  dg : Dg (18446744073709551616 : Nat) outs
  eq : val (18446744073709551616 : Nat) (xs.take (k + 1)) = 2 ^ s * (val (18446744073709551616 : Nat) outs + (18446744073709551616 : Nat) ^ k * (xs.getD k 0 / 2 ^ s)) + xs.getD 0 0 % 2 ^ s
  only : w.grownBy W (some g)

theorem and63 : ∀ s : Fin 64, bits .and .u64 (s.val : Int) 63 = s.val := by decide +kernel
theorem and64 : ∀ s : Fin 64, 0 < s.val → bits .and .u64 (64 - (s.val : Int)) 63 = 64 - s.val := by decide +kernel

/-- A word's upper bits, and the next one's lower bits above them. -/
theorem shr_or (x y : Int) (s : Nat) (hs0 : 0 < s) (hs : s < 64) (hx0 : 0 ≤ x) (hx : x < 18446744073709551616) (hy0 : 0 ≤ y) (hy : y < 18446744073709551616) :
    bits .or .u64 (x / 2 ^ s) (IntKind.u64.wrap (y * 2 ^ (64 - s))) = x / 2 ^ s + (y % 2 ^ s) * 2 ^ (64 - s) := by
  have hPQ : (2 : Int) ^ s * 2 ^ (64 - s) = 18446744073709551616 := by rw [← Int.pow_add, show s + (64 - s) = 64 by omega]; rfl
  have hP : (0 : Int) < 2 ^ s := Int.pow_pos (by decide)
  have hQ : (0 : Int) < 2 ^ (64 - s) := Int.pow_pos (by decide)
  have hd : y = 2 ^ s * (y / 2 ^ s) + y % 2 ^ s := (Int.mul_ediv_add_emod y (2 ^ s)).symm
  have hr0 : 0 ≤ y % 2 ^ s := Int.emod_nonneg _ (by omega)
  have hr1 : y % 2 ^ s < 2 ^ s := Int.emod_lt_of_pos _ hP
  have hm0 : 0 ≤ (y % 2 ^ s) * 2 ^ (64 - s) := Int.mul_nonneg hr0 (by omega)
  have hm1 : (y % 2 ^ s) * 2 ^ (64 - s) < 18446744073709551616 := by
    rw [← hPQ]; exact Int.mul_lt_mul_of_pos_right hr1 hQ
  have hyq : y * 2 ^ (64 - s) = 18446744073709551616 * (y / 2 ^ s) + (y % 2 ^ s) * 2 ^ (64 - s) := by
    rw [← hPQ]
    have h2 : y * 2 ^ (64 - s) = (2 ^ s * (y / 2 ^ s) + y % 2 ^ s) * 2 ^ (64 - s) := by rw [← hd]
    rw [h2, Int.add_mul]
    congr 1
    rw [Int.mul_assoc, Int.mul_comm (y / 2 ^ s), ← Int.mul_assoc]
  have e3 : IntKind.u64.wrap (y * 2 ^ (64 - s)) = (y % 2 ^ s) * 2 ^ (64 - s) := by
    rw [hyq]
    generalize (y % 2 ^ s) * 2 ^ (64 - s) = M at hm0 hm1
    simp [IntKind.wrap, IntKind.bits, IntKind.signed]; omega
  have hx2 : x / 2 ^ s < 2 ^ (64 - s) := Int.ediv_lt_of_lt_mul hP (by rw [Int.mul_comm, hPQ]; exact hx)
  have hx3 : 0 ≤ x / 2 ^ s := Int.ediv_nonneg hx0 (Int.le_of_lt hP)
  have hx4 : x / 2 ^ s < 18446744073709551616 := Int.lt_of_le_of_lt (Int.ediv_le_self _ hx0) hx
  rw [e3]
  exact bits_join_low .u64 64 (by decide) (fun n a b => wu64 a (by omega)) (64 - s) _ _ hx3 hx2 (by omega) hm0 (Int.mul_emod_left _ _) (by omega)

theorem out_word (x y : Int) (s : Nat) (hs0 : 0 < s) (hs : s < 64) (hx0 : 0 ≤ x) (hx : x < 18446744073709551616) (hy0 : 0 ≤ y) :
    0 ≤ x / 2 ^ s + (y % 2 ^ s) * 2 ^ (64 - s) ∧ x / 2 ^ s + (y % 2 ^ s) * 2 ^ (64 - s) < 18446744073709551616 := by
  have hPQ : (2 : Int) ^ s * 2 ^ (64 - s) = 18446744073709551616 := by rw [← Int.pow_add, show s + (64 - s) = 64 by omega]; rfl
  have hP : (0 : Int) < 2 ^ s := Int.pow_pos (by decide)
  have hQ : (0 : Int) < 2 ^ (64 - s) := Int.pow_pos (by decide)
  have hx2 : x / 2 ^ s < 2 ^ (64 - s) := Int.ediv_lt_of_lt_mul hP (by rw [Int.mul_comm, hPQ]; exact hx)
  have hx3 : 0 ≤ x / 2 ^ s := Int.ediv_nonneg hx0 (Int.le_of_lt hP)
  have hr0 : 0 ≤ y % 2 ^ s := Int.emod_nonneg _ (by omega)
  have hr1 : y % 2 ^ s < 2 ^ s := Int.emod_lt_of_pos _ hP
  have hm0 : 0 ≤ (y % 2 ^ s) * 2 ^ (64 - s) := Int.mul_nonneg hr0 (by omega)
  have hm1 : (y % 2 ^ s + 1) * 2 ^ (64 - s) ≤ 2 ^ s * 2 ^ (64 - s) := Int.mul_le_mul_of_nonneg_right (by omega) (by omega)
  rw [Int.add_mul, hPQ] at hm1
  omega

theorem RsIn.next {g m : Nat} {xs : List Int} {s : Nat} {cs : Array Value} {w W : World} {k : Nat} {outs : List Int} {cs' : Array Value} (h : RsIn g m xs s cs w W k outs cs') (hs0 : 0 < s) (hs : s < 64) (hl : xs.length = m) (hz : m ≤ cs.size) (hk : k + 1 < m) (hd : Dg (18446744073709551616 : Nat) xs)
    (x y : Int) (hx : xs.getD k 0 = x) (hy : xs.getD (k + 1) 0 = y) :
    RsIn g m xs s cs w (W.setCell ⟨g, k, none⟩ (.int .u64 (bits .or .u64 (x / 2 ^ s) (IntKind.u64.wrap (y * 2 ^ (64 - s)))))) (k + 1) (outs ++ [x / 2 ^ s + (y % 2 ^ s) * 2 ^ (64 - s)]) (cs'.setIfInBounds k (.int .u64 (x / 2 ^ s + (y % 2 ^ s) * 2 ^ (64 - s)))) := by
  have dx := Dg_get (B := (18446744073709551616 : Nat)) (by decide) hd k
  have dy := Dg_get (B := (18446744073709551616 : Nat)) (by decide) hd (k + 1)
  rw [hx] at dx
  rw [hy] at dy
  have hPQ : (2 : Int) ^ s * 2 ^ (64 - s) = (18446744073709551616 : Nat) := by rw [← Int.pow_add, show s + (64 - s) = 64 by omega]; rfl
  have ho := out_word x y s hs0 hs dx.1 (by have := dx.2; omega) dy.1
  rw [shr_or x y s hs0 hs dx.1 (by have := dx.2; omega) dy.1 (by have := dy.2; omega)]
  refine ⟨Wr_put h.wr (by omega) _, blk_set h.blk k _, Dg_append.2 ⟨h.dg, fun z hz => by rw [List.mem_singleton] at hz; subst hz; exact ⟨ho.1, by have := ho.2; omega⟩⟩, ?_, only_setCell (p := ⟨g, k, none⟩) h.only (.inl rfl) _⟩
  have h1 := h.eq
  rw [hx] at h1
  have h2 := shr_step (Q := 2 ^ (64 - s)) (q := y / 2 ^ s) (r := y % 2 ^ s) hPQ (by omega) h.wr.2.1 h1 (by rw [hy]; exact (Int.mul_ediv_add_emod y (2 ^ s)).symm)
  rw [hy]
  exact h2

theorem RsIn.drew {g m : Nat} {xs : List Int} {s : Nat} {cs : Array Value} {w W : World} {k : Nat} {outs : List Int} {cs' : Array Value} (h : RsIn g m xs s cs w W k outs cs') : RsIn g m xs s cs w W.drew k outs cs' :=
  ⟨h.wr, blk_drew h.blk, h.dg, h.eq, only_drewN h.only 1⟩

set_option maxHeartbeats 2000000 in
theorem rshVU_g (g c m s : Nat) (xs : List Int) (cs : Array Value) (w : World) (hm0 : 0 < m) (hm : m ≤ 100000) (hc : m ≤ c) (hs0 : 0 < s) (hs : s < 64) (hg : w.heap[g]? = some (.cells cs 167 (0, 0))) (hz : m ≤ cs.size)
    (hx : Cw w g m xs) (hl : xs.length = m) (hd : Dg (18446744073709551616 : Nat) xs) :
    Calls Tryz.prog 241 #[.slice (some ⟨g, 0, none⟩) m c, .slice (some ⟨g, 0, none⟩) m c, .int .u64 s] w (RsOk g m xs s cs w) := by
  have h0 : RsIn g m xs s cs w w 0 [] cs := ⟨Wr_zero cs, hg, Dg_nil _, shr_first (by omega) rfl, only_refl _ _⟩
  have H0 := Aside0.mk h0
  have HX : Hid (∀ i, i < m → cs[i]? = some (.int .u64 (xs.getD i 0))) := Lib.hid (fun i hi => by rw [← blk_cell hg i]; exact hx i hi)
  have HD := Lib.hid hd
  have HL := Aside0.mk hl
  have b1 : ((s : Int) == 0) = false := by simp; omega
  have b2 : ((m : Int) == 0) = false := by simp; omega
  have a1 : bits .and .u64 (s : Int) 63 = s := and63 ⟨s, hs⟩
  have a2 : bits .and .u64 (64 - (s : Int)) 63 = 64 - (s : Int) := and64 ⟨s, hs⟩ hs0
  have hsi : (s : Int) < 64 := by omega
  have hs1 : (1 : Int) ≤ s := by omega
  have hmi : (1 : Int) ≤ m := by omega
  have hc0 := hx 0 hm0
  clear hg hx hd hl h0
  go_enter Tryz.func241, Tryz.ntmps241
  go_wp2_with fail
  go_loopw [8] (fun i W => ∃ (k : Nat) (outs : List Int) (cs' : Array Value), 1 ≤ k ∧ k ≤ m ∧ i = .int .i64 k ∧ RsIn g m xs s cs w W (k - 1) outs cs') (fun i _ => m - (intOf i).toNat)
  case atStart => exact ⟨1, [], cs, Nat.le_refl _, by omega, rfl, H0.out⟩
  case round =>
    obtain ⟨k, outs, cs', hk1, hk, rfl, hin⟩ := hrel
    have HI := Aside0.mk hin
    have hcell : ∀ i, k - 1 ≤ i → i < m → wr.cell? ⟨g, i, none⟩ = some (.int .u64 (xs.getD i 0)) := fun i h1 h2 => by
      rw [blk_cell hin.blk i, hin.wr.2.2.2 i h1]
      exact HX.out i h2
    by_cases hlt : k < m
    · have hlt' : (k : Int) < m := by omega
      have c1 := hcell (k - 1) (Nat.le_refl _) (by omega)
      have c2 := hcell k (by omega) hlt
      obtain ⟨x, ex⟩ : ∃ x, xs.getD (k - 1) 0 = x := ⟨_, rfl⟩
      obtain ⟨y, ey⟩ : ∃ y, xs.getD k 0 = y := ⟨_, rfl⟩
      rw [ex] at c1
      rw [ey] at c2
      have hf1 : wr.frozen? ⟨g, k - 1, none⟩ = false := blk_frozen hin.blk _
      obtain ⟨j, rfl⟩ : ∃ j, k = j + 1 := ⟨k - 1, by omega⟩
      have HNX := Aside0.mk (RsIn.drew (RsIn.next (k := j) hin hs0 hs HL.out hz hlt HD.out x y ex ey))
      rw [show j + 1 - 1 = j from rfl] at c1 hf1
      have hj0 : (0 : Int) ≤ j := by omega
      have hj1 : (j : Int) < m := by omega
      clear hcell hin ex ey
      go_wp2_with fail
      go_region
      go_wp2_with fail
      go_roundw
      case rel => exact ⟨j + 1 + 1, _, _, by omega, by omega, by go_num, HNX.out⟩
      case measure => simp [intOf]; omega
    · obtain rfl : k = m := by omega
      have c1 := hcell (k - 1) (Nat.le_refl _) (by omega)
      obtain ⟨x, ex⟩ : ∃ x, xs.getD (k - 1) 0 = x := ⟨_, rfl⟩
      rw [ex] at c1
      have hf1 : wr.frozen? ⟨g, k - 1, none⟩ = false := blk_frozen hin.blk _
      have EX := Aside0.mk ex
      clear hcell hin ex
      go_wp2_with fail
      go_ret
      have hin := HI.out
      have hP : (0 : Int) < 2 ^ s := Int.pow_pos (by decide)
      have dx := Dg_get (B := (18446744073709551616 : Nat)) (by decide) HD.out (k - 1)
      rw [EX.out] at dx
      have hx4 : x / 2 ^ s < 18446744073709551616 := Int.lt_of_le_of_lt (Int.ediv_le_self _ dx.1) (by have := dx.2; omega)
      have hx3 : 0 ≤ x / 2 ^ s := Int.ediv_nonneg dx.1 (Int.le_of_lt hP)
      have he := hin.eq
      rw [EX.out, show k - 1 + 1 = k by omega, List.take_of_length_le (by have := HL.out; omega)] at he
      have hv := shr_last hP hin.wr.2.1 (Int.emod_nonneg _ (by omega)) (Int.emod_lt_of_pos _ hP) he
      have hw := Wr_put hin.wr (by omega) (x / 2 ^ s)
      rw [show k - 1 + 1 = k by omega] at hw
      exact ⟨_, _, _, rfl, hw, blk_set hin.blk (k - 1) _, Dg_append.2 ⟨hin.dg, fun z hz => by rw [List.mem_singleton] at hz; subst hz; exact ⟨hx3, by omega⟩⟩, hv, only_setCell (p := ⟨g, k - 1, none⟩) hin.only (.inl rfl) _⟩

theorem rshVU_any (g c m s : Nat) (xs : List Int) (cs : Array Value) (w : World) (hm0 : 0 < m) (hm : m ≤ 100000) (hc : m ≤ c) (hs0 : 0 < s) (hs : s < 64) (hg : w.heap[g]? = some (.cells cs 167 (0, 0))) (hz : m ≤ cs.size)
    (hx : Cw w g m xs) (hl : xs.length = m) (hd : Dg (18446744073709551616 : Nat) xs) :
    Calls Tryz.prog 200 #[.slice (some ⟨g, 0, none⟩) m c, .slice (some ⟨g, 0, none⟩) m c, .int .u64 s] w (RsOk g m xs s cs w) := by
  have H := Aside0.mk (rshVU_g g c m s xs cs w hm0 hm hc hs0 hs hg hz hx hl hd)
  clear hg hx hd hl
  go_enter Tryz.func200, Tryz.ntmps200
  go_wp2_with fail
  refine H.out.mono ?_
  rintro e w' ⟨c, outs, cs', rfl, hW⟩
  have HW := Aside0.mk hW
  clear hW
  go_wp2_with fail
  go_ret
  exact ⟨c, outs, cs', rfl, HW.out⟩

/-- What rsh answers. -/
def RhOk (base V : Nat) (w : World) (e : Ending) (w' : World) : Prop := ∃ v, e = .returned v ∧ Nt w' base v (figs 18446744073709551616 V) ∧ Below base w w'

set_option maxHeartbeats 2000000 in
theorem rsh_any (base g cap m s : Nat) (xs : List Int) (cur : Array Value) (w : World) (hm0 : 0 < m) (hm : m ≤ 100000) (hs0 : 0 < s) (hs : s < 64) (hb : base ≤ w.heap.size) (hbg : base ≤ g)
    (hg : w.heap[g]? = some (.cells cur 167 (0, 0))) (hcap : m ≤ cap) (hcm : cap ≤ 9223372036854775807) (hsz : cur.size = cap) (hx : Cw w g m xs) (hl : xs.length = m) (hd : Dg (18446744073709551616 : Nat) xs) :
    Calls Tryz.prog 153 #[.slice (some ⟨g, 0, none⟩) m cap, .slice (some ⟨g, 0, none⟩) m cap, .int .u64 s] w (RhOk base ((val (18446744073709551616 : Nat) xs).toNat / 2 ^ s) w) := by
  have HV := Aside0.mk (rshVU_any g cap m s xs cur w hm0 hm hcap hs0 hs hg (by omega) hx hl hd)
  have HM := Aside0.mk (make_fit (some ⟨g, 0, none⟩) m cap m w hcap hcm)
  have HC := Aside0.mk hcm
  have HZ := Aside0.mk hsz
  have HB := Aside0.mk hb
  have HBG := Aside0.mk hbg
  have b1 : ((s : Int) == 0) = false := by simp; omega
  have hsi : (s : Int) < 64 := by omega
  have hmi : (1 : Int) ≤ m := by omega
  have d1 : (s : Int) / 64 = 0 := by omega
  have d2 : (s : Int) % 64 = s := by omega
  have hci : (m : Int) ≤ cap := by omega
  have hvr := val_range (B := (18446744073709551616 : Nat)) (by decide) hd
  have HVR := Aside0.mk hvr.1
  clear hg hx hd hl hsz hcm hvr hb hbg
  go_enter Tryz.func153, Tryz.ntmps153
  go_wp2_with fail
  refine HM.out.mono ?_
  rintro e w' ⟨rfl, rfl⟩
  go_wp2_with fail
  refine HV.out.mono ?_
  rintro e w1 ⟨c, outs, cs', rfl, hw, hbk, hd, hv, ho⟩
  have HW := Aside0.mk hw
  have HBK := Aside0.mk hbk
  have HD := Lib.hid hd
  have HVV := Aside0.mk hv
  have HO := Aside0.mk ho
  clear hw hbk hd hv ho
  go_wp2_with fail
  refine (norm_any g cap m outs _ hcap (by omega) HC.out (fun i hi => by rw [blk_cell HBK.out i]; exact HW.out.2.2.1 i hi)).mono ?_
  rintro e w2 ⟨i, hi, hz, ht, rfl, rfl⟩
  have HI := Aside0.mk (And.intro hi (And.intro hz ht))
  clear hi hz ht
  go_wp2_with fail
  go_ret
  obtain ⟨hi, hz, ht⟩ := HI.out
  have hol := HW.out.2.1
  have hf := figs_of_trim (B := 18446744073709551616) (by decide) HD.out i (by omega) (fun j h1 h2 => hz j h1 (by omega)) ht
  have hvn : (val (18446744073709551616 : Nat) outs).toNat = (val (18446744073709551616 : Nat) xs).toNat / 2 ^ s := by
    rw [HVV.out]
    have h0 := HVR.out
    obtain ⟨X, hX⟩ := Int.eq_ofNat_of_zero_le h0
    rw [hX, Int.toNat_natCast]
    have : (X : Int) / 2 ^ s = ((X / 2 ^ s : Nat) : Int) := by push_cast; rfl
    rw [this, Int.toNat_natCast]
  rw [hvn] at hf
  refine ⟨_, rfl, ?_, (Below.refl base w).grown HO.out HB.out (fun k hk => by cases hk; exact HBG.out)⟩
  rw [← hf]
  have hli : (outs.take i).length = i := by rw [List.length_take]; omega
  have hk := Nt_mk (w := w1) (base := base) (g := g) (cap := cap) (cur := cs') (xs := outs.take i) HBG.out HBK.out (by omega) HC.out (by rw [HW.out.1, HZ.out]) (fun j hj => by
    rw [hli] at hj
    rw [HW.out.2.2.1 j (by omega)]
    simp [List.getD_eq_getElem?_getD, hj])
  rw [hli] at hk
  exact hk
end Go.Proofs.YtgpoplfgngiilaaGreatDoor

namespace Go.Proofs.YtgpoplfgngiilaaGreatDoor
open Go.RowKit Go.Proofs.YtgpoplfgngiilaaGreatDoorW.PrintWords PAll Pl

/-- The reader's block: the text, the place, the place before. -/
def RdAt (w : World) (g : Nat) (s : ByteArray) (i : Int) (p : Int) : Prop := w.heap[g]? = some (.cells #[.string s, .int .i64 i, .int .i64 p] 189 (0, 0))

set_option maxHeartbeats 2000000 in
set_option maxRecDepth 100000 in
theorem read_some (g : Nat) (s : ByteArray) (i : Nat) (p : Int) (w : World) (hs : s.size ≤ 100000) (hi : i < s.size) (hr : RdAt w g s i p) :
    Calls Tryz.prog 110 #[.pointer (some ⟨g, 0, none⟩)] w fun e w' => e = .returned (.tuple #[.int .u8 (bt s i), .nilIface]) ∧ RdAt w' g s (i + 1 : Nat) (-1) ∧ w.grownBy w' (some g) := by
  have c0 : w.cell? ⟨g, 0, none⟩ = some (.string s) := blk_cell hr 0
  have c1 : w.cell? ⟨g, 1, none⟩ = some (.int .i64 i) := blk_cell hr 1
  have c2 : w.cell? ⟨g, 2, none⟩ = some (.int .i64 p) := blk_cell hr 2
  have f0 : w.frozen? ⟨g, 0, none⟩ = false := blk_frozen hr 0
  have f1 : w.frozen? ⟨g, 1, none⟩ = false := blk_frozen hr 1
  have f2 : w.frozen? ⟨g, 2, none⟩ = false := blk_frozen hr 2
  have hxk : ∀ h : i < s.size, ((s[i]'h).toNat : Int) = bt s (i : Nat) := fun h => (bt_nat s i h).symm
  have hlt : (i : Int) < s.size := by omega
  have HR := Aside0.mk hr
  clear hr
  go_enter Tryz.func110, Tryz.ntmps110
  go_wp2_with fail
  go_quiet (fail)
  go_wp2_with fail
  go_quiet (fail)
  go_wp2_with fail
  refine bodyPost_ret (results_tmp2 rfl _ _ _) rfl ?_
  refine ⟨rfl, ?_, only_setCell (p := ⟨g, 1, none⟩) (only_drewN (only_setCell (p := ⟨g, 2, none⟩) (only_refl _ _) (.inl rfl) _) _) (.inl rfl) _⟩
  exact blk_put (blk_drewN (blk_put HR.out 2 (.int .i64 (-1)) rfl) _) 1 (.int .i64 ((i : Int) + 1)) rfl

set_option maxHeartbeats 2000000 in
set_option maxRecDepth 100000 in
theorem read_end (g : Nat) (s : ByteArray) (i : Nat) (p : Int) (ev : Value) (w : World) (hs : s.size ≤ 100000) (hi : s.size ≤ i) (hi2 : i ≤ 100000) (hr : RdAt w g s i p) (hg : 1 < g) (hev : w.cell? ⟨1, 0, none⟩ = some ev) :
    Calls Tryz.prog 110 #[.pointer (some ⟨g, 0, none⟩)] w fun e w' => e = .returned (.tuple #[.int .u8 0, ev]) ∧ RdAt w' g s i (-1) ∧ w.grownBy w' (some g) := by
  have c0 : w.cell? ⟨g, 0, none⟩ = some (.string s) := blk_cell hr 0
  have c1 : w.cell? ⟨g, 1, none⟩ = some (.int .i64 i) := blk_cell hr 1
  have c2 : w.cell? ⟨g, 2, none⟩ = some (.int .i64 p) := blk_cell hr 2
  have f2 : w.frozen? ⟨g, 2, none⟩ = false := blk_frozen hr 2
  have e1 : (w.setCell ⟨g, 2, none⟩ (.int .i64 (-1))).cell? ⟨1, 0, none⟩ = some ev := (World.cell?_of_block (Below.heap_setCell w ⟨g, 2, none⟩ _ 1 (by simp; omega))).trans hev
  have hle : (s.size : Int) ≤ i := by omega
  have HR := Aside0.mk hr
  clear hr hev
  go_enter Tryz.func110, Tryz.ntmps110
  go_wp2_with fail
  go_quiet (fail)
  go_wp2_with fail
  go_quiet (fail)
  go_wp2_with fail
  refine bodyPost_ret (results_tmp2 rfl _ _ _) rfl ?_
  refine ⟨rfl, ?_, only_drewN (only_drewN (only_setCell (p := ⟨g, 2, none⟩) (only_refl _ _) (.inl rfl) _) _) _⟩
  exact blk_drewN (blk_drewN (blk_put HR.out 2 (.int .i64 (-1)) rfl) _) _

set_option maxHeartbeats 2000000 in
set_option maxRecDepth 100000 in
theorem unread (g : Nat) (s : ByteArray) (i : Nat) (p : Int) (w : World) (hi : i < 100000) (hr : RdAt w g s (i + 1 : Nat) p) :
    Calls Tryz.prog 347 #[.pointer (some ⟨g, 0, none⟩)] w fun e w' => e = .returned .nilIface ∧ RdAt w' g s i (-1) ∧ w.grownBy w' (some g) := by
  have c0 : w.cell? ⟨g, 0, none⟩ = some (.string s) := blk_cell hr 0
  have c1 : w.cell? ⟨g, 1, none⟩ = some (.int .i64 ((i : Int) + 1)) := blk_cell hr 1
  have c2 : w.cell? ⟨g, 2, none⟩ = some (.int .i64 p) := blk_cell hr 2
  have f0 : w.frozen? ⟨g, 0, none⟩ = false := blk_frozen hr 0
  have f1 : w.frozen? ⟨g, 1, none⟩ = false := blk_frozen hr 1
  have f2 : w.frozen? ⟨g, 2, none⟩ = false := blk_frozen hr 2
  have hi0 : (0 : Int) ≤ i := by omega
  have HR := Aside0.mk hr
  clear hr
  go_enter Tryz.func347, Tryz.ntmps347
  go_wp2_with fail
  go_ret
  refine ⟨rfl, ?_, only_setCell (p := ⟨g, 1, none⟩) (only_setCell (p := ⟨g, 2, none⟩) (only_refl _ _) (.inl rfl) _) (.inl rfl) _⟩
  exact blk_put (blk_put HR.out 2 (.int .i64 (-1)) rfl) 1 (.int .i64 (i : Int)) rfl
end Go.Proofs.YtgpoplfgngiilaaGreatDoor

namespace Go.Proofs.YtgpoplfgngiilaaGreatDoor
open Go.RowKit Go.Proofs.YtgpoplfgngiilaaGreatDoorW.PrintWords PAll Pl

set_option maxHeartbeats 2000000 in
theorem scanSign_none (g : Nat) (s : ByteArray) (p : Int) (w : World) (hs0 : 0 < s.size) (hs : s.size ≤ 100000) (h45 : bt s 0 ≠ 45) (h43 : bt s 0 ≠ 43) (hr : RdAt w g s 0 p) :
    Calls Tryz.prog 111 #[.iface 133 (.pointer (some ⟨g, 0, none⟩))] w fun e w' => e = .returned (.tuple #[.bool false, .nilIface]) ∧ RdAt w' g s 0 (-1) ∧ w.grownBy w' (some g) := by
  have H := Aside0.mk (read_some g s 0 p w hs hs0 hr)
  have b1 : (bt s 0 == 45) = false := by simpa using h45
  have b2 : (bt s 0 == 43) = false := by simpa using h43
  clear hr h45 h43
  go_enter Tryz.func111, Tryz.ntmps111
  go_wp2_with fail
  refine H.out.mono ?_
  rintro e w1 ⟨rfl, hr, ho⟩
  have HO := Aside0.mk ho
  have HU := Aside0.mk (unread g s 0 (-1) w1 (by omega) hr)
  clear hr ho
  go_wp2_with fail
  refine HU.out.mono ?_
  rintro e w2 ⟨rfl, hr, ho⟩
  have HR := Aside0.mk hr
  have HO2 := Aside0.mk (only_trans HO.out ho)
  clear hr ho
  go_wp2_with fail
  go_ret2
  exact ⟨rfl, HR.out, HO2.out⟩
end Go.Proofs.YtgpoplfgngiilaaGreatDoor

namespace Go.Proofs
open Go.Shelf
def Tryz.lays130_ren : Go.Shelf.Ren := ⟨fun | 130 => 215 | 125 => 252 | 128 => 276 | 129 => 277 | n => n, fun | 46 => 50 | 3 => 3 | 51 => 41 | 53 => 47 | 4 => 4 | 5 => 5 | 9 => 9 | n => n, fun | n => n⟩
theorem Tryz.lays130 : Go.Proofs.Lays.n130 Tryz.prog Tryz.lays130_ren := {
  mixed := by kernel_rfl
  f125 := Tryz.func252.trans (congrArg some (by kernel_rfl))
  f128 := Tryz.func276.trans (congrArg some (by kernel_rfl))
  f129 := Tryz.func277.trans (congrArg some (by kernel_rfl))
  f130 := Tryz.func215.trans (congrArg some (by kernel_rfl))
  t3 := Tryz.underlying3
  a3 := Tryz.isAgg3
  z3 := Tryz.sizeOf3
  v3 := Tryz.zeroValue3
  t4 := Tryz.underlying4
  a4 := Tryz.isAgg4
  z4 := Tryz.sizeOf4
  v4 := Tryz.zeroValue4
  t5 := Tryz.underlying5
  a5 := Tryz.isAgg5
  z5 := Tryz.sizeOf5
  v5 := Tryz.zeroValue5
  t9 := Tryz.underlying9
  a9 := Tryz.isAgg9
  z9 := Tryz.sizeOf9
  v9 := Tryz.zeroValue9
  t46 := Tryz.underlying50
  a46 := Tryz.isAgg50
  z46 := Tryz.sizeOf50
  v46 := Tryz.zeroValue50
  t51 := Tryz.underlying41
  a51 := Tryz.isAgg41
  z51 := Tryz.sizeOf41
  v51 := Tryz.zeroValue41
  t53 := Tryz.underlying47
  a53 := Tryz.isAgg47
  z53 := Tryz.sizeOf47
  v53 := Tryz.zeroValue47 }
/-- bits.LeadingZeros: "LeadingZeros returns the number of leading zero bits in x; the result is [UintSize] for x == 0.": IT RETURNS '64 - Lib.bitLen x'; the world is as it was. ITS CALLEE bits.Len IS MET BY ITS OWN CONTRACT OFF THE SHELF (lay that first): entered in place it sends the kernel out of memory. (LAID: no walk: one application.) -/
theorem Tryz.bits_LeadingZeros (x : Int) (w : World) (h0 : 0 ≤ x) (h1 : x ≤ 18446744073709551615) :
    Calls Tryz.prog 215 #[.int .u64 x] w fun e w' => e = .returned (.int .i64 (64 - (Lib.bitLen x.toNat : Int))) ∧ w' = w := Any.bits_LeadingZeros Tryz.lays130 x w h0 h1
end Go.Proofs

namespace Go.Proofs.YtgpoplfgngiilaaGreatDoor
open Go.RowKit

theorem nlz_is (x : Nat) (h0 : 0 < x) (hx : x < 18446744073709551616) : ∃ s : Nat, s < 64 ∧ (64 - (Lib.bitLen x : Int)) = (s : Int) ∧ 9223372036854775808 ≤ x * 2 ^ s ∧ x * 2 ^ s < 18446744073709551616 := by
  obtain ⟨h1, h2, h3⟩ := Lib.bitLenAux_bounds 64 x (by omega) (by omega)
  change 1 ≤ Lib.bitLen x at h1
  change 2 ^ (Lib.bitLen x - 1) ≤ x at h2
  change x < 2 ^ Lib.bitLen x at h3
  have h4 := Lib.bitLen_le x 64 (by omega)
  obtain ⟨b, hb⟩ : ∃ b, Lib.bitLen x = b := ⟨_, rfl⟩
  rw [hb] at h1 h2 h3 h4 ⊢
  refine ⟨64 - b, by omega, by omega, ?_, ?_⟩
  · have : 2 ^ (b - 1) * 2 ^ (64 - b) ≤ x * 2 ^ (64 - b) := Nat.mul_le_mul_right _ h2
    rw [← Nat.pow_add, show b - 1 + (64 - b) = 63 from by omega] at this
    exact this
  · have : x * 2 ^ (64 - b) < 2 ^ b * 2 ^ (64 - b) := Nat.mul_lt_mul_of_pos_right h3 (Nat.pow_pos (by omega))
    rw [← Nat.pow_add, show b + (64 - b) = 64 from by omega] at this
    exact this

/-- nlz of a word that is not 0: the shift that lays its highest bit on top. -/
theorem nlz_any (x : Nat) (h0 : 0 < x) (hx : x < 18446744073709551616) : ∃ s : Nat, s < 64 ∧ 9223372036854775808 ≤ x * 2 ^ s ∧ x * 2 ^ s < 18446744073709551616 ∧
    ∀ w, Calls Tryz.prog 160 #[.int .u64 x] w fun e w' => e = .returned (.int .u64 s) ∧ w' = w := by
  obtain ⟨s, hs, he, a, b⟩ := nlz_is x h0 hx
  refine ⟨s, hs, a, b, fun w => ?_⟩
  have hc : ∀ W, Calls Tryz.prog 215 #[.int .u64 x] W fun e w' => e = .returned (.int .i64 s) ∧ w' = W := fun W => by
    have h := Tryz.bits_LeadingZeros x W (by omega) (by omega)
    rw [Int.toNat_natCast, he] at h
    exact h
  have hw : IntKind.u64.wrap (s : Int) = (s : Int) := by simp [IntKind.wrap, IntKind.bits, IntKind.signed]; omega
  clear a b he h0 hx hs
  go_enter Tryz.func160, Tryz.ntmps160
  go_wp2_with (first | (go_at_call 215; refine (hc _).mono ?_; rintro e w' ⟨rfl, rfl⟩))
  go_ret
  exact ⟨rfl, rfl⟩
end Go.Proofs.YtgpoplfgngiilaaGreatDoor

namespace Go.Proofs.YtgpoplfgngiilaaGreatDoor
open Go.RowKit Go.Proofs.YtgpoplfgngiilaaGreatDoorW.PrintWords PAll Pl

theorem word_eqd {a b c d : Int} (h : a = b) (k : c = d) : Ending.returned (.tuple #[.int .u64 a, .int .u64 c]) = .returned (.tuple #[.int .u64 b, .int .u64 d]) := by rw [h, k]
set_option maxHeartbeats 1000000 in
theorem div64_zero (lo y : Nat) (hy0 : 0 < y) (hy : y < 18446744073709551616) (hlo : lo < 18446744073709551616) (w : World) :
    Calls Tryz.prog 280 #[.int .u64 0, .int .u64 lo, .int .u64 y] w fun e w' => e = .returned (.tuple #[.int .u64 ((lo / y : Nat) : Int), .int .u64 ((lo % y : Nat) : Int)]) ∧ Below w.heap.size w w' := by
  have c1 : ((y : Int) == 0) = false := beq_eq_false_iff_ne.mpr (by omega)
  have c2 : ((y : Int) != 0) = true := bne_iff_ne.mpr (by omega)
  have c3 : decide ((y : Int) ≤ 0) = false := decide_eq_false (by omega)
  have q1 : IntKind.u64.wrap ((lo : Int) / y) = ((lo / y : Nat) : Int) := by
    rw [show (lo : Int) / y = ((lo / y : Nat) : Int) from rfl]
    have := Nat.div_le_self lo y
    generalize lo / y = q at *
    exact wu64 (by omega) (by omega)
  have hne : ¬ (y : Int) = 0 := by omega
  clear hy0 hy hlo
  go_enter Tryz.func280, Tryz.ntmps280
  go_wp2
  go_region
  go_wp2
  refine bodyPost_ret (results_tmp2 rfl _ _ _) rfl ?_
  exact ⟨by first | exact word_eqd q1 rfl | exact word_eqd rfl rfl, by repeat (first | exact Below.refl _ _ | apply below_drew1 | apply pw_below_drewN)⟩

set_option maxHeartbeats 1000000 in
theorem divB_zero (lo y : Nat) (hy0 : 0 < y) (hy : y < 18446744073709551616) (hlo : lo < 18446744073709551616) (w : World) :
    Calls Tryz.prog 257 #[.int .u64 0, .int .u64 lo, .int .u64 y] w fun e w' => e = .returned (.tuple #[.int .u64 ((lo / y : Nat) : Int), .int .u64 ((lo % y : Nat) : Int)]) ∧ Below w.heap.size w w' := by
  have h := fun W => div64_zero lo y hy0 hy hlo W
  have hq := Nat.div_le_self lo y
  have hr := Nat.mod_le lo y
  have q1 : IntKind.u64.wrap ((lo / y : Nat) : Int) = ((lo / y : Nat) : Int) := by generalize lo / y = q at *; exact wu64 (by omega) (by omega)
  have q2 : IntKind.u64.wrap ((lo % y : Nat) : Int) = ((lo % y : Nat) : Int) := by generalize lo % y = q at *; exact wu64 (by omega) (by omega)
  clear hq hr hy0 hy hlo
  generalize lo / y = q at *
  generalize lo % y = r at *
  go_enter Tryz.func257, Tryz.ntmps257
  go_wp2_with (first | (go_at_call 280; refine (h _).mono ?_; rintro e w' ⟨rfl, hb⟩))
  refine bodyPost_ret (results_tmp2 rfl _ _ _) rfl ?_
  exact ⟨by first | rfl | exact word_eqd q1 q2, hb⟩
end Go.Proofs.YtgpoplfgngiilaaGreatDoor

namespace Go.Proofs.YtgpoplfgngiilaaGreatDoor.Dv

/-- The guess by the reciprocal is not too great, and its rest is below B + d. -/
theorem by_rec (B d M k x1 x0 q f : Nat) (hB : 0 < B) (hM : d * M + k = B * B) (hk : k ≤ d) (hd : d ≤ B) (h1 : x1 < d) (h0 : x0 < B) (hq : x1 * M + x0 = q * B + f) (hf : f < B) :
    d * q ≤ x1 * B + x0 ∧ x1 * B + x0 < d * q + (B + d) := by
  -- B times the rest
  have e : (x1 * B + x0) * B + d * x0 = d * q * B + (x1 * k + x0 * B + d * f) := by
    have e1 : d * (x1 * M + x0) = d * (q * B + f) := by rw [hq]
    have e2 : x1 * (d * M + k) = x1 * (B * B) := by rw [hM]
    simp only [Nat.mul_add, Nat.add_mul, Nat.mul_assoc, Nat.mul_comm, Nat.mul_left_comm] at e1 e2 ⊢
    omega
  have a1 : d * x0 ≤ x0 * B := by rw [Nat.mul_comm]; exact Nat.mul_le_mul_left _ hd
  have a2 : x1 * k + d ≤ d * B := by
    have : x1 * k ≤ x1 * B := Nat.mul_le_mul_left _ (Nat.le_trans hk hd)
    have : (x1 + 1) * B ≤ d * B := Nat.mul_le_mul_right _ h1
    rw [Nat.succ_mul] at this
    omega
  have a3 : d * f + d ≤ d * B := by
    have : d * (f + 1) ≤ d * B := Nat.mul_le_mul_left _ hf
    rw [Nat.mul_succ] at this
    omega
  have a4 : x0 * B + d * B ≤ B * B + d * x0 := by
    -- (B - d) (B - x0) ≥ 0, with x0 ≤ B
    obtain ⟨u, hu⟩ := Nat.exists_eq_add_of_le hd
    obtain ⟨v, hv⟩ := Nat.exists_eq_add_of_le (Nat.le_of_lt h0)
    have : B * B + d * x0 = x0 * B + d * B + u * v := by
      have e3 : B * B = (d + u) * (x0 + v) := by rw [← hu, ← hv]
      have e4 : x0 * B = x0 * (d + u) := by rw [← hu]
      have e5 : d * B = d * (x0 + v) := by rw [← hv]
      rw [e3, e4, e5]
      simp only [Nat.mul_add, Nat.add_mul, Nat.mul_assoc, Nat.mul_comm, Nat.mul_left_comm]
      omega
    omega
  constructor
  · have : d * q * B ≤ (x1 * B + x0) * B := by omega
    exact Nat.le_of_mul_le_mul_right this hB
  · have : (x1 * B + x0) * B < (d * q + (B + d)) * B := by
      rw [Nat.add_mul (d * q), Nat.add_mul B]
      omega
    exact Nat.lt_of_mul_lt_mul_right this

/-- A guess of a figure is never too small: it is one at the start. -/
theorem kn_start (b y y1 y0 u u1 : Nat) (hy : y = y1 * b + y0) (h1 : 0 < y1) (hu1 : u1 < b) : u * b + u1 < (u / y1 + 1) * y := by
  have a : u + 1 ≤ (u / y1 + 1) * y1 := by rw [Nat.mul_comm]; exact Nat.lt_mul_div_succ u h1
  have e : (u + 1) * b ≤ (u / y1 + 1) * y1 * b := Nat.mul_le_mul_right _ a
  rw [hy, Nat.mul_add, ← Nat.mul_assoc]
  rw [Nat.succ_mul] at e
  omega
/-- A step down keeps that. -/
theorem kn_step (b y y1 y0 u u1 q r : Nat) (hy : y = y1 * b + y0) (hq : q * y1 + r = u) (huy : u < y) (hu1 : u1 < b) (h : b ≤ q ∨ r * b + u1 < q * y0) : u * b + u1 < q * y := by
  rcases h with h | h
  · have : (u + 1) * b ≤ y * q := Nat.mul_le_mul huy h
    rw [Nat.succ_mul, Nat.mul_comm y] at this
    omega
  · rw [hy, ← hq, Nat.mul_add, Nat.add_mul, ← Nat.mul_assoc]
    omega
/-- Where the steps end the guess is the figure. -/
theorem kn_end (b y y1 y0 u u1 q r : Nat) (hb : 0 < b) (hy : y = y1 * b + y0) (hy0 : y0 < b) (hq : q * y1 + r = u) (huy : u < y) (hi : u * b + u1 < (q + 1) * y) (h : (q < b ∧ q * y0 ≤ r * b + u1) ∨ b ≤ r) :
    q < b ∧ q * y ≤ u * b + u1 := by
  have hy1 : 0 < y1 ∨ y1 = 0 := by omega
  have hqb : q < b := by
    rcases h with h | h
    · exact h.1
    · apply Nat.lt_of_not_le
      intro hc
      have : b * y1 ≤ q * y1 := Nat.mul_le_mul_right _ hc
      rw [Nat.mul_comm b] at this
      omega
  refine ⟨hqb, ?_⟩
  have hle : q * y0 ≤ r * b + u1 := by
    rcases h with h | h
    · exact h.2
    · have a : q * y0 ≤ b * b := Nat.mul_le_mul (Nat.le_of_lt hqb) (Nat.le_of_lt hy0)
      have c : b * b ≤ r * b := Nat.mul_le_mul_right _ h
      omega
  rw [hy, ← hq, Nat.mul_add, Nat.add_mul, ← Nat.mul_assoc]
  omega
/-- Two figures are the quotient. -/
theorem kn_two (b y hi u1 u0 q1 r1 q0 r : Nat) (h1 : hi * b + u1 = q1 * y + r1) (h0 : r1 * b + u0 = q0 * y + r) : hi * (b * b) + (u1 * b + u0) = (q1 * b + q0) * y + r := by
  have e : (hi * b + u1) * b = (q1 * y + r1) * b := by rw [h1]
  simp only [Nat.mul_add, Nat.add_mul, Nat.mul_assoc, Nat.mul_comm, Nat.mul_left_comm] at e h0 ⊢
  omega
/-- The word that the reciprocal is. -/
theorem rec_is (B d r : Nat) (hd : 0 < d) (hdB : d < B) (h : B ≤ 2 * d) (hr : ((B - 1 - d) * B + (B - 1)) / d = r) : r < B ∧ ∃ k, d * (r + B) + k = B * B ∧ 0 < k ∧ k ≤ d := by
  have e : (B - 1 - d) * B + (B - 1) + d * B + 1 = B * B := by
    obtain ⟨u, hu⟩ := Nat.exists_eq_add_of_le (show d + 1 ≤ B by omega)
    have e1 : B - 1 - d = u := by omega
    rw [e1]
    have e2 : B * B = (d + 1 + u) * B := by rw [← hu]
    rw [e2, Nat.add_mul, Nat.add_mul]
    omega
  have a := Nat.div_add_mod ((B - 1 - d) * B + (B - 1)) d
  have m := Nat.mod_lt ((B - 1 - d) * B + (B - 1)) hd
  rw [hr] at a
  refine ⟨?_, d - ((B - 1 - d) * B + (B - 1)) % d - 1 + 1 - d + 1 + ((B - 1 - d) * B + (B - 1)) % d, ?_, by omega, by omega⟩
  · apply Nat.lt_of_not_le
    intro hc
    have : d * B ≤ d * r := Nat.mul_le_mul_left _ hc
    have : B * B ≤ 2 * d * B := Nat.mul_le_mul_right _ h
    rw [Nat.mul_assoc] at this
    omega
  · rw [Nat.mul_add]
    omega
end Go.Proofs.YtgpoplfgngiilaaGreatDoor.Dv

namespace Go.Proofs.YtgpoplfgngiilaaGreatDoor.Dv

/-- Two words shifted up. -/
theorem ww_scale (x1 x0 y s B : Nat) (hB : B = 18446744073709551616) (hs : s < 64) (h : x1 < y) (h0 : x0 < B) (hd : y * 2 ^ s < B) :
    (x1 * 2 ^ s + x0 / 2 ^ (64 - s)) * B + x0 * 2 ^ s % B = (x1 * B + x0) * 2 ^ s ∧ x1 * 2 ^ s + x0 / 2 ^ (64 - s) < y * 2 ^ s ∧ x1 * 2 ^ s < B ∧ x0 / 2 ^ (64 - s) < 2 ^ s := by
  have hPQ : 2 ^ s * 2 ^ (64 - s) = B := by rw [hB, ← Nat.pow_add, show s + (64 - s) = 64 by omega]
  have hP : 0 < 2 ^ s := Nat.pow_pos (by omega)
  have hQ : 0 < 2 ^ (64 - s) := Nat.pow_pos (by omega)
  generalize 2 ^ s = P at *
  generalize 2 ^ (64 - s) = Q at *
  have e := Nat.div_add_mod x0 Q
  have hr := Nat.mod_lt x0 hQ
  have ha : x0 / Q < P := Nat.div_lt_of_lt_mul (by rw [Nat.mul_comm, hPQ]; exact h0)
  generalize x0 / Q = a at *
  generalize x0 % Q = r at *
  have hrP : r * P < B := by rw [← hPQ, Nat.mul_comm P]; exact Nat.mul_lt_mul_of_pos_right hr hP
  have e2 : x0 * P = r * P + B * a := by
    rw [← e, ← hPQ]; grind
  have hm : x0 * P % B = r * P := by rw [e2, Nat.add_mul_mod_self_left, Nat.mod_eq_of_lt hrP]
  rw [hm]
  have h3 : (x1 + 1) * P ≤ y * P := Nat.mul_le_mul_right _ h
  rw [Nat.succ_mul] at h3
  refine ⟨?_, by omega, by omega, ha⟩
  rw [Nat.add_mul, Nat.add_mul, e2]
  grind

/-- Two words less two words. -/
theorem sub2 (x1 x0 d1 d0 B : Nat) (hB : B = 18446744073709551616) (h1 : x1 < B) (h0 : x0 < B) (k1 : d1 < B) (k0 : d0 < B) (h : d1 * B + d0 ≤ x1 * B + x0) :
    (x0 + B - d0 - 0) % B = (x1 * B + x0 - (d1 * B + d0)) % B ∧ (x1 + B - d1 - (if x0 < d0 + 0 then 1 else 0)) % B = (x1 * B + x0 - (d1 * B + d0)) / B := by
  subst hB
  split <;> omega

/-- The guess is a word. -/
theorem guess_lt (d q X B : Nat) (h : d * q ≤ X) (hX : X < d * B) : q < B := by
  apply Nat.lt_of_not_le
  intro hc
  have : d * B ≤ d * q := Nat.mul_le_mul_left _ hc
  omega

/-- The rest of the guess tells how many steps are left. -/
theorem steps (d q X R B : Nat) (hd : 0 < d) (h2 : B ≤ 2 * d) (hR : X = d * q + R) (hlt : R < B + d) :
    (R < d → X / d = q ∧ X % d = R) ∧ (d ≤ R → R < 2 * d → X / d = q + 1 ∧ X % d = R - d) ∧ (2 * d ≤ R → X / d = q + 2 ∧ X % d = R - 2 * d) ∧ R < 3 * d := by
  refine ⟨fun h => ?_, fun h k => ?_, fun h => ?_, by omega⟩
  · subst hR
    constructor
    · rw [Nat.mul_add_div hd, Nat.div_eq_of_lt h, Nat.add_zero]
    · rw [Nat.mul_add_mod, Nat.mod_eq_of_lt h]
  · have e : X = d * (q + 1) + (R - d) := by rw [Nat.mul_succ]; omega
    rw [e]
    constructor
    · rw [Nat.mul_add_div hd, Nat.div_eq_of_lt (by omega), Nat.add_zero]
    · rw [Nat.mul_add_mod, Nat.mod_eq_of_lt (by omega)]
  · have e : X = d * (q + 2) + (R - 2 * d) := by rw [Nat.mul_add, Nat.mul_comm d 2]; omega
    rw [e]
    constructor
    · rw [Nat.mul_add_div hd, Nat.div_eq_of_lt (by omega), Nat.add_zero]
    · rw [Nat.mul_add_mod, Nat.mod_eq_of_lt (by omega)]

/-- The quotient of numbers shifted up is theirs, the rest is theirs shifted up. -/
theorem div_scale (X y s : Nat) : X * 2 ^ s / (y * 2 ^ s) = X / y ∧ X * 2 ^ s % (y * 2 ^ s) / 2 ^ s = X % y := by
  have hP : 0 < 2 ^ s := Nat.pow_pos (by omega)
  refine ⟨Nat.mul_div_mul_right _ _ hP, ?_⟩
  rw [Nat.mul_mod_mul_right, Nat.mul_div_cancel _ hP]

/-- All of divWW. -/
theorem ww_all (B x1 x0 y m k s d t1 t0 c q dq1 dq0 X1 X0 : Nat) (hB : B = 18446744073709551616) (hs : s < 64) (h : x1 < y) (h0 : x0 < B) (hdd : d = y * 2 ^ s) (hd : d < B) (h2 : B ≤ 2 * d)
    (hM : d * (m + B) + k = B * B) (hk : k ≤ d) (hX1 : X1 = x1 * 2 ^ s + x0 / 2 ^ (64 - s)) (hX0 : X0 = x0 * 2 ^ s % B)
    (ht : t1 = m * X1 / B) (ht0 : t0 = m * X1 % B) (hc : c = (t0 + X0 + 0) / B) (hq : q = (t1 + X1 + c) % B) (hq1 : dq1 = d * q / B) (hq0 : dq0 = d * q % B) :
    ∃ R, (X0 + B - dq0 - 0) % B = R % B ∧ (X1 + B - dq1 - (if X0 < dq0 + 0 then 1 else 0)) % B = R / B ∧ R < B + d ∧ q + 2 < B + 2 ∧
      (R < d → (x1 * B + x0) / y = q ∧ (x1 * B + x0) % y = R / 2 ^ s) ∧ (d ≤ R → R < 2 * d → (x1 * B + x0) / y = q + 1 ∧ (x1 * B + x0) % y = (R - d) / 2 ^ s) ∧ (2 * d ≤ R → (x1 * B + x0) / y = q + 2 ∧ (x1 * B + x0) % y = (R - 2 * d) / 2 ^ s) := by
  have hBp : 0 < B := by omega
  obtain ⟨e1, e2, e3, e4⟩ := ww_scale x1 x0 y s B hB hs h h0 (by omega)
  rw [← hX1, ← hX0] at e1
  rw [← hX1, ← hdd] at e2
  have hX0l : X0 < B := by rw [hX0]; exact Nat.mod_lt _ hBp
  -- the guess
  have hm1 := Nat.div_add_mod (m * X1) B
  rw [← ht, ← ht0] at hm1
  have hm2 := Nat.div_add_mod (t0 + X0 + 0) B
  rw [← hc] at hm2
  have hf := Nat.mod_lt (t0 + X0 + 0) hBp
  generalize (t0 + X0 + 0) % B = f at hm2 hf
  have hg : X1 * (m + B) + X0 = (t1 + X1 + c) * B + f := by
    rw [Nat.mul_add, Nat.mul_comm X1 m, ← hm1, Nat.add_mul, Nat.add_mul]
    rw [Nat.mul_comm B t1]
    rw [Nat.mul_comm B c] at hm2
    omega
  obtain ⟨g1, g2⟩ := by_rec B d (m + B) k X1 X0 (t1 + X1 + c) f hBp hM hk (by omega) e2 hX0l hg hf
  have hXl : X1 * B + X0 < d * B := by
    have : (X1 + 1) * B ≤ d * B := Nat.mul_le_mul_right _ e2
    rw [Nat.succ_mul] at this
    omega
  have hql := guess_lt d (t1 + X1 + c) _ B g1 hXl
  rw [Nat.mod_eq_of_lt hql] at hq
  rw [← hq] at g1 g2 hql
  have hdq := Nat.div_add_mod (d * q) B
  rw [← hq1, ← hq0, Nat.mul_comm B] at hdq
  have l0 : dq0 < B := by rw [hq0]; exact Nat.mod_lt _ hBp
  have l1 : dq1 < B := by
    apply Nat.lt_of_not_le
    intro hcc
    have : B * B ≤ dq1 * B := Nat.mul_le_mul_right _ hcc
    have : d * B ≤ B * B := Nat.mul_le_mul_right _ (by omega)
    omega
  obtain ⟨r0, r1⟩ := sub2 X1 X0 dq1 dq0 B hB (by omega) hX0l l1 l0 (by omega)
  refine ⟨_, r0, r1, by omega, by omega, ?_⟩
  have hst := steps d q (X1 * B + X0) (X1 * B + X0 - (dq1 * B + dq0)) B (by omega) h2 (by omega) (by omega)
  obtain ⟨s1, s2⟩ := div_scale (x1 * B + x0) y s
  rw [← e1, ← hdd] at s1 s2
  obtain ⟨a1, a2, a3, a4⟩ := hst
  generalize X1 * B + X0 - (dq1 * B + dq0) = R at *
  refine ⟨fun hh => ?_, fun hh kk => ?_, fun hh => ?_⟩
  · obtain ⟨b1, b2⟩ := a1 hh; exact ⟨s1.symm.trans b1, by rw [← s2, b2]⟩
  · obtain ⟨b1, b2⟩ := a2 hh kk; exact ⟨s1.symm.trans b1, by rw [← s2, b2]⟩
  · obtain ⟨b1, b2⟩ := a3 hh; exact ⟨s1.symm.trans b1, by rw [← s2, b2]⟩
end Go.Proofs.YtgpoplfgngiilaaGreatDoor.Dv
