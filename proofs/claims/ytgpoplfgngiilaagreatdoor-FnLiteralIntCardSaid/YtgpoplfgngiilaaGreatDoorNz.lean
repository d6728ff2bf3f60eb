/- Plain laws on words of 64 bits: a word times a word and a carry; a number times a word, word by word; a number shifted to the right, word by word; what is left when words 0 at the end are struck. The contract of math/bits.Mul at this program (out of the shelf's lay-plain tool). A word times a word and a word: mulAddWWW_g. nat's make, norm, mulAddVWW over blocks of words. nat's mulAddWW: a number times a word and a word. maxPow at 10 and 8; pow at the bases 2, 8, 10, 16. slices.Reverse at words; rshVU; nat's rsh in its own room. strings.Reader's ReadByte, over the reader's block. scanSign over a strings.Reader. -/
import Derived.Test.YtgpoplfgngiilaaGreatDoorPl
import Derived.Shelf.Bits.Mul64
import Derived.Test.YtgpoplfgngiilaaGreatDoorProg
import Derived.Test.YtgpoplfgngiilaaGreatDoorB0
import Derived.Laws.Externs
import Derived.Test.YtgpoplfgngiilaaGreatDoorSN
import Derived.RegionTactic
import Derived.BigRegion
import Derived.Lib.EndianBits
set_option linter.unusedVariables false
set_option linter.unusedSimpArgs false
namespace Go.Proofs.YtgpoplfgngiilaaGreatDoor.Pl
open Go.RowKit Go.Proofs.YtgpoplfgngiilaaGreatDoorW.PrintWords

theorem val_zero {B : Int} : ∀ {xs : List Int}, (∀ x ∈ xs, x = 0) → val B xs = 0
  | [], _ => rfl
  | x :: xs, h => by
    rw [val_cons, h x (by simp), val_zero (fun y hy => h y (by simp [hy]))]; simp

/-- Words 0 at the end are struck. -/
theorem figs_of_trim {B : Nat} (hB : 2 ≤ B) {xs : List Int} (hd : Dg B xs) (i : Nat) (hi : i ≤ xs.length) (hz : ∀ j, i ≤ j → j < xs.length → xs.getD j 0 = 0) (ht : i = 0 ∨ xs.getD (i - 1) 0 ≠ 0) :
    xs.take i = figs B (val B xs).toNat := by
  have h1 : val B xs = val B (xs.take i) := by
    conv => lhs; rw [← List.take_append_drop i xs]
    rw [val_append, val_zero (xs := xs.drop i) (fun x hx => ?_)]
    · simp
    · obtain ⟨j, hj, rfl⟩ := List.mem_iff_getElem.1 hx
      have hj' : i + j < xs.length := by simpa [Nat.lt_sub_iff_add_lt, Nat.add_comm] using hj
      have := hz (i + j) (by omega) hj'
      rw [List.getD_eq_getElem?_getD, List.getElem?_eq_getElem hj'] at this
      simpa using this
  rw [h1]
  refine figs_uniq hB (Dg_take hd i) ?_
  intro hl
  rcases ht with h0 | h0
  · subst h0; simp at hl
  · apply h0
    have hl2 : (xs.take i).length = i := by rw [List.length_take]; omega
    rw [List.getLast?_eq_getElem?, hl2] at hl
    have hip : 0 < i := by
      rcases Nat.eq_zero_or_pos i with h | h
      · subst h; simp at hl
      · exact h
    rw [List.getElem?_take, if_pos (by omega)] at hl
    rw [List.getD_eq_getElem?_getD, hl]; rfl

theorem mulAdd_word {x y c p : Int} (hp : p = x * y) (hx0 : 0 ≤ x) (hx : x < 18446744073709551616) (hy0 : 0 ≤ y) (hy : y < 18446744073709551616) (hc0 : 0 ≤ c) (hc : c < 18446744073709551616) :
    0 ≤ p ∧ p / 18446744073709551616 + (p % 18446744073709551616 + c) / 18446744073709551616 = (p + c) / 18446744073709551616 ∧ (p % 18446744073709551616 + c) % 18446744073709551616 = (p + c) % 18446744073709551616 ∧
      0 ≤ (p + c) / 18446744073709551616 ∧ (p + c) / 18446744073709551616 < 18446744073709551616 := by
  have h1 : p ≤ 18446744073709551615 * 18446744073709551615 := by rw [hp]; exact Int.mul_le_mul (by omega) (by omega) hy0 (by decide)
  have h0 : 0 ≤ p := by rw [hp]; exact Int.mul_nonneg hx0 hy0
  refine ⟨h0, by omega, by omega, by omega, by omega⟩

/-- A number times a word: the next word. -/
theorem mav_step {B : Int} {xs outs : List Int} {k : Nat} {y r c lo hi : Int} (hk : k < xs.length) (hl : outs.length = k) (h : val B outs + B ^ k * c = val B (xs.take k) * y + r) (hs : lo + B * hi = xs.getD k 0 * y + c) :
    val B (outs ++ [lo]) + B ^ (k + 1) * hi = val B (xs.take (k + 1)) * y + r := by
  have hlt : (xs.take k).length = k := by rw [List.length_take]; omega
  rw [rd_take hk, val_append, val_append, hl, hlt, Int.pow_succ]
  simp only [val, Int.mul_zero, Int.add_zero]
  have h2 : B ^ k * (lo + B * hi) = B ^ k * (xs.getD k 0 * y + c) := by rw [hs]
  grind

/-- A number shifted to the right: the next word. -/
theorem shr_step {B P Q : Int} {xs outs : List Int} {k : Nat} {a r0 q r : Int} (hPQ : P * Q = B) (hk : k + 1 < xs.length) (hl : outs.length = k) (h : val B (xs.take (k + 1)) = P * (val B outs + B ^ k * a) + r0) (hx : xs.getD (k + 1) 0 = P * q + r) :
    val B (xs.take (k + 2)) = P * (val B (outs ++ [a + r * Q]) + B ^ (k + 1) * q) + r0 := by
  have hlt : (xs.take (k + 1)).length = k + 1 := by rw [List.length_take]; omega
  rw [rd_take hk, val_append, val_append, hl, hlt, h, hx, Int.pow_succ]
  simp only [val, Int.mul_zero, Int.add_zero]
  subst hPQ
  grind
theorem shr_first {B P : Int} {x : Int} {xs : List Int} (hx : 0 < xs.length) (hP : xs.getD 0 0 = x) : val B (xs.take 1) = P * (val B [] + B ^ 0 * (x / P)) + x % P := by
  have h1 : xs.take 1 = [x] := by
    cases xs with
    | nil => simp at hx
    | cons a l => simp at hP; subst hP; rfl
  rw [h1]
  simp only [val, Int.mul_zero, Int.add_zero, Int.pow_zero, Int.one_mul, Int.zero_add]
  exact (Int.mul_ediv_add_emod x P).symm
theorem shr_last {B P : Int} {xs outs : List Int} {k : Nat} {a r0 : Int} (hP : 0 < P) (hl : outs.length = k) (hr0 : 0 ≤ r0) (hr1 : r0 < P) (h : val B xs = P * (val B outs + B ^ k * a) + r0) : val B (outs ++ [a]) = val B xs / P := by
  rw [h, val_append, hl]
  simp only [val, Int.mul_zero, Int.add_zero]
  rw [Int.mul_add_ediv_left _ _ (by omega), Int.ediv_eq_zero_of_lt hr0 hr1, Int.add_zero]

/-- Words with the highest first. -/
theorem val_rev_snoc (B : Int) (ws : List Int) (d : Int) : val B (ws ++ [d]).reverse = d + B * val B ws.reverse := by
  rw [List.reverse_append, List.reverse_singleton, List.singleton_append, val_cons]
end Go.Proofs.YtgpoplfgngiilaaGreatDoor.Pl

namespace Go.Proofs
open Go.Shelf
def Tryz.lays264_ren : Go.Shelf.Ren := ⟨fun | 264 => 279 | n => n, fun | 53 => 47 | 46 => 50 | n => n, fun | n => n⟩
theorem Tryz.lays264 : Go.Proofs.Lays.n264 Tryz.prog Tryz.lays264_ren := {
  mixed := by kernel_rfl
  f264 := Tryz.func279.trans (congrArg some (by kernel_rfl))
  t46 := Tryz.underlying50
  a46 := Tryz.isAgg50
  z46 := Tryz.sizeOf50
  v46 := Tryz.zeroValue50
  t53 := Tryz.underlying47
  a53 := Tryz.isAgg47
  z53 := Tryz.sizeOf47
  v53 := Tryz.zeroValue47 }
open Go.RowKit Go.Lib in
theorem Tryz.bits_Mul64 (x y : Nat) (hx : x < 18446744073709551616) (hy : y < 18446744073709551616) (w : World) :
    Calls Tryz.prog 279 #[.int .u64 x, .int .u64 y] w fun e w' => e = .returned (.tuple #[.int .u64 ((x * y / 18446744073709551616 : Nat) : Int), .int .u64 ((x * y % 18446744073709551616 : Nat) : Int)]) ∧ w' = w := Any.bits_Mul64 Tryz.lays264 x y hx hy w
def Tryz.lays212_ren : Go.Shelf.Ren := ⟨fun | 212 => 253 | 263 => 278 | 264 => 279 | n => n, fun | 46 => 50 | 51 => 41 | 146 => 333 | 53 => 47 | 148 => 335 | n => n, fun | n => n⟩
theorem Tryz.lays212 : Go.Proofs.Lays.n212 Tryz.prog Tryz.lays212_ren := {
  mixed := by kernel_rfl
  f212 := Tryz.func253.trans (congrArg some (by kernel_rfl))
  f263 := Tryz.func278.trans (congrArg some (by kernel_rfl))
  f264 := Tryz.func279.trans (congrArg some (by kernel_rfl))
  t46 := Tryz.underlying50
  a46 := Tryz.isAgg50
  z46 := Tryz.sizeOf50
  v46 := Tryz.zeroValue50
  t51 := Tryz.underlying41
  a51 := Tryz.isAgg41
  z51 := Tryz.sizeOf41
  v51 := Tryz.zeroValue41
  t53 := Tryz.underlying47
  a53 := Tryz.isAgg47
  z53 := Tryz.sizeOf47
  v53 := Tryz.zeroValue47
  t146 := Tryz.underlying333
  a146 := Tryz.isAgg333
  z146 := Tryz.sizeOf333
  v146 := Tryz.zeroValue333
  t148 := Tryz.underlying335
  a148 := Tryz.isAgg335
  z148 := Tryz.sizeOf335
  v148 := Tryz.zeroValue335 }
open Go.RowKit Go.Lib in
/-- math/bits.Mul: "Mul returns the full-width product of x and y": on a machine of 64 bits: Mul64's. (LAID: no walk: one application.) -/
theorem Tryz.bits_Mul (x y : Nat) (hx : x < 18446744073709551616) (hy : y < 18446744073709551616) (w : World) :
    Calls Tryz.prog 253 #[.int .u64 x, .int .u64 y] w fun e w' => e = .returned (.tuple #[.int .u64 ((x * y / 18446744073709551616 : Nat) : Int), .int .u64 ((x * y % 18446744073709551616 : Nat) : Int)]) ∧ w' = w := Any.bits_Mul Tryz.lays212 x y hx hy w
end Go.Proofs

namespace Go.Proofs.YtgpoplfgngiilaaGreatDoor
open Go.RowKit Go.Proofs.YtgpoplfgngiilaaGreatDoorW.PrintWords PAll Pl

theorem add64 (x y : Nat) (hx : x < 18446744073709551616) (hy : y < 18446744073709551616) (w : World) :
    (callFunc 267 #[.int .u64 x, .int .u64 y, .int .u64 0]).run Tryz.prog w = .ok (.value (.tuple #[.int .u64 (((x + y) % 18446744073709551616 : Nat) : Int), .int .u64 (((x + y) / 18446744073709551616 : Nat) : Int)])) w := by
  rw [run_callFunc_extern (P := Tryz.prog) Tryz.func267 (by kernel_rfl) (by kernel_rfl) (by kernel_rfl) (e := add64Entry) (by kernel_rfl)]
  have h2 := run_add64 (P := Tryz.prog) x y 0 (by omega) (by omega) (by omega) (by omega) w
  rw [h2]
  simp only [Result.andThen, Int.add_zero]
  rfl

set_option maxHeartbeats 1000000 in
theorem add_any (x y : Nat) (hx : x < 18446744073709551616) (hy : y < 18446744073709551616) (w : World) :
    Calls Tryz.prog 240 #[.int .u64 x, .int .u64 y, .int .u64 0] w fun e w' => e = .returned (.tuple #[.int .u64 (((x + y) % 18446744073709551616 : Nat) : Int), .int .u64 (((x + y) / 18446744073709551616 : Nat) : Int)]) ∧ w = w' := by
  have h := fun W => add64 x y hx hy W
  go_enter Tryz.func240, Tryz.ntmps240
  go_wp2_with fail
  refine bodyPost_ret (results_tmp2 rfl _ _ _) rfl ?_
  exact ⟨rfl, rfl⟩

theorem word_eq {a b c d : Int} (h : a = b) (k : c = d) : Ending.returned (.tuple #[.int .u64 a, .int .u64 c]) = .returned (.tuple #[.int .u64 b, .int .u64 d]) := by rw [h, k]

set_option maxHeartbeats 1000000 in
theorem mulAddWWW (x y c : Nat) (hx : x < 18446744073709551616) (hy : y < 18446744073709551616) (hc : c < 18446744073709551616) (w : World) :
    Calls Tryz.prog 270 #[.int .u64 x, .int .u64 y, .int .u64 c] w fun e w' => e = .returned (.tuple #[.int .u64 (((x * y + c) / 18446744073709551616 : Nat) : Int), .int .u64 (((x * y + c) % 18446744073709551616 : Nat) : Int)]) ∧ w = w' := by
  obtain ⟨p, hp⟩ : ∃ p, p = x * y := ⟨_, rfl⟩
  have hm := Tryz.bits_Mul x y hx hy w
  rw [← hp] at hm ⊢
  have hp1 : p ≤ 18446744073709551615 * 18446744073709551615 := by rw [hp]; exact Nat.mul_le_mul (by omega) (by omega)
  have key : IntKind.u64.wrap (((p / 18446744073709551616 : Nat) : Int) + (((p % 18446744073709551616 + c) / 18446744073709551616 : Nat) : Int)) = (((p + c) / 18446744073709551616 : Nat) : Int) := by
    rw [wu64 (by omega) (by omega)]; omega
  have hmod : (p % 18446744073709551616 + c) % 18446744073709551616 = (p + c) % 18446744073709551616 := by omega
  have hb1 : p % 18446744073709551616 < 18446744073709551616 := Nat.mod_lt _ (by decide)
  have HM := Aside0.mk hm
  have KEY := Aside0.mk key
  have HMOD := Aside0.mk hmod
  have HB := Aside0.mk hb1
  have HC := Aside0.mk hc
  clear hm hp1 key hmod hb1 hp hx hy hc
  obtain ⟨h1, eh1⟩ : ∃ h1, h1 = p / 18446744073709551616 := ⟨_, rfl⟩
  obtain ⟨l1, el1⟩ : ∃ l1, l1 = p % 18446744073709551616 := ⟨_, rfl⟩
  rw [← eh1, ← el1] at HM KEY
  rw [← el1] at HB HMOD
  clear eh1 el1
  go_enter Tryz.func270, Tryz.ntmps270
  go_wp2_with fail
  refine HM.out.mono ?_
  rintro e w' ⟨rfl, rfl⟩
  go_wp2_with fail
  refine (add_any _ _ HB.out HC.out _).mono ?_
  rintro e w' ⟨rfl, rfl⟩
  go_wp2_with fail
  refine bodyPost_ret (results_tmp2 rfl _ _ _) rfl ?_
  exact ⟨word_eq KEY.out (by have := HMOD.out; omega), rfl⟩
end Go.Proofs.YtgpoplfgngiilaaGreatDoor

namespace Go.Proofs.YtgpoplfgngiilaaGreatDoor
open Go.RowKit Go.Proofs.YtgpoplfgngiilaaGreatDoorW.PrintWords PAll Pl

theorem info167 : (Tryz.prog.info? 167).map (fun i => (i.zero, i.size, i.bytes)) = some (some (.int .u64 0), 1, 8) := by kernel_rfl

theorem make_fit (A : Option Addr) (n c m : Nat) (w : World) (hm : m ≤ c) (hc : c ≤ 9223372036854775807) :
    Calls Tryz.prog 130 #[.slice A n c, .int .i64 m] w fun e w' => e = .returned (.slice A m c) ∧ w = w' := by
  have hm' : (m : Int) ≤ c := by omega
  go_enter Tryz.func130, Tryz.ntmps130
  go_wp2_with fail
  go_ret
  exact ⟨rfl, rfl⟩

theorem make_one (A : Option Addr) (w : World) :
    Calls Tryz.prog 130 #[.slice A 0 0, .int .i64 1] w fun e w' => e = .returned (.slice (some ⟨w.heap.size, 0, none⟩) 1 1) ∧ w.alloc (.cells #[.int .u64 0] 167) = w' := by
  have hmk : ∀ w, (Instr.makeSlice 114 (.int .i64 1) (.int .i64 1)).run Tryz.prog w = .ok (.slice (some ⟨w.heap.size, 0, none⟩) 1 1) (w.alloc (.cells #[.int .u64 0] 167)) := fun _ => by kernel_rfl
  go_enter Tryz.func130, Tryz.ntmps130
  go_wp2_with fail
  go_ret
  exact ⟨rfl, rfl⟩

theorem make_new (A : Option Addr) (n c m : Nat) (w : World) (hm : c < m) (hm1 : m ≠ 1) (hm2 : m ≤ 1000000) :
    Calls Tryz.prog 130 #[.slice A n c, .int .i64 m] w fun e w' => e = .returned (.slice (some ⟨w.heap.size, 0, none⟩) m (m + 4)) ∧ w.alloc (.cells (madeCells #[.int .u64 0] (m + 4)) 167) = w' := by
  have hm' : (c : Int) < m := by omega
  have b1 : ((m : Int) == 1) = false := by simp; omega
  have hmk : ∀ W : World, (Instr.makeSlice 114 (.int .i64 (m : Int)) (.int .i64 ((m : Int) + 4))).run Tryz.prog W = .ok (.slice (some ⟨W.heap.size, 0, none⟩) m (m + 4)) (W.alloc (.cells (madeCells #[.int .u64 0] (m + 4)) 167)) := by
    intro W
    obtain ⟨i0, hi, hz0, hz1, hz2⟩ := info_parts info167
    have h := run_make (P := Tryz.prog) W 114 167 i0 (.int .u64 0) Tryz.underlying114 hi hz0 .i64 .i64 m ((m : Int) + 4) (by omega) (by omega) (by rw [hz2]; omega) (by omega)
    rw [hz1, show ((m : Int) + 4).toNat = m + 4 by omega, Int.toNat_natCast, Nat.mul_one] at h
    exact h
  go_enter Tryz.func130, Tryz.ntmps130
  go_wp2_with fail
  go_ret
  exact ⟨rfl, rfl⟩

/-- Words 0 at the end are cut off. -/
def NmOk (g c n : Nat) (xs : List Int) (w : World) (e : Ending) (w' : World) : Prop :=
  ∃ i : Nat, i ≤ n ∧ (∀ j, i ≤ j → j < n → xs.getD j 0 = 0) ∧ (i = 0 ∨ xs.getD (i - 1) 0 ≠ 0) ∧ e = .returned (.slice (some ⟨g, 0, none⟩) i c) ∧ w = w'

set_option maxHeartbeats 1000000 in
theorem norm_any (g c n : Nat) (xs : List Int) (w : World) (hn : n ≤ c) (hc0 : 0 < c) (hc : c ≤ 9223372036854775807) (hx : ∀ i, i < n → w.cell? ⟨g, i, none⟩ = some (.int .u64 (xs.getD i 0))) :
    Calls Tryz.prog 134 #[.slice (some ⟨g, 0, none⟩) n c] w (NmOk g c n xs w) := by
  have HX := Lib.hid hx
  clear hx
  go_enter Tryz.func134, Tryz.ntmps134
  go_wp2_with fail
  go_loop [3] (fun i => ∃ k : Nat, k ≤ n ∧ i = .int .i64 k ∧ Aside0 (∀ j, k ≤ j → j < n → xs.getD j 0 = 0)) (fun i => (intOf i).toNat)
  case atStart => exact ⟨n, Nat.le_refl _, rfl, ⟨fun j h1 h2 => absurd h1 (by omega)⟩⟩
  case round =>
    obtain ⟨k, hk, rfl, hz⟩ := hrel
    rcases Nat.eq_zero_or_pos k with h0 | hp
    · subst h0
      go_wp2_with fail
      go_ret
      exact ⟨0, hk, hz.out, .inl rfl, rfl, rfl⟩
    · obtain ⟨j, rfl⟩ : ∃ j, k = j + 1 := ⟨k - 1, by omega⟩
      have hcj := HX.out j (by omega)
      have hd : decide ((0:Int) < ((j + 1 : Nat) : Int)) = true := decide_eq_true (by omega)
      have hj1 : ((j + 1 : Nat) : Int) - 1 = j := by omega
      obtain ⟨x, hxj⟩ : ∃ x, xs.getD j 0 = x := ⟨_, rfl⟩
      rw [hxj] at hcj
      have HXJ := Aside0.mk hxj
      clear hxj
      by_cases hx0 : x = 0
      · subst hx0
        go_wp2_with fail
        go_round
        case rel => exact ⟨j, by omega, by go_num, ⟨fun i h1 h2 => by
          rcases Nat.lt_or_ge j i with h | h
          · exact hz.out i (by omega) h2
          · rw [show i = j by omega]; exact HXJ.out⟩⟩
        case measure => simp [intOf]
      · have bx : (x == 0) = false := by simpa using hx0
        have HX0 := Aside0.mk hx0
        clear hx0
        go_wp2_with fail
        go_ret
        exact ⟨j + 1, hk, hz.out, .inr (by rw [show j + 1 - 1 = j from rfl, HXJ.out]; exact HX0.out), rfl, rfl⟩

/-- A row of words read cell by cell. -/
def Cw (w : World) (g n : Nat) (xs : List Int) : Prop := ∀ i, i < n → w.cell? ⟨g, i, none⟩ = some (.int .u64 (xs.getD i 0))

/-- A block of words after k of them were written. -/
def Wr (cs cs' : Array Value) (k : Nat) (outs : List Int) : Prop := cs'.size = cs.size ∧ outs.length = k ∧ (∀ i, i < k → cs'[i]? = some (.int .u64 (outs.getD i 0))) ∧ ∀ i, k ≤ i → cs'[i]? = cs[i]?

theorem Wr_zero (cs : Array Value) : Wr cs cs 0 [] := ⟨rfl, rfl, fun i h => absurd h (Nat.not_lt_zero _), fun _ _ => rfl⟩
theorem Wr_put {cs cs' : Array Value} {k : Nat} {outs : List Int} (h : Wr cs cs' k outs) (hk : k < cs.size) (x : Int) : Wr cs (cs'.setIfInBounds k (.int .u64 x)) (k + 1) (outs ++ [x]) := by
  obtain ⟨h1, h2, h3, h4⟩ := h
  refine ⟨by simpa using h1, by simp [h2], fun i hi => ?_, fun i hi => ?_⟩
  · rw [Array.getElem?_setIfInBounds]
    rcases Nat.lt_or_ge i k with hlt | hge
    · rw [if_neg (by omega), h3 i hlt, List.getD_eq_getElem?_getD, List.getD_eq_getElem?_getD, List.getElem?_append_left (by omega)]
    · obtain rfl : i = k := by omega
      rw [if_pos rfl, if_pos (by omega), List.getD_eq_getElem?_getD, List.getElem?_append_right (by omega), h2]
      simp
  · rw [Array.getElem?_setIfInBounds, if_neg (by omega), h4 i (by omega)]

/-- What mulAddVWW answers. -/
def MaOk (gz m : Nat) (xs : List Int) (y r : Int) (cs : Array Value) (w : World) (e : Ending) (w' : World) : Prop :=
  ∃ (c : Int) (outs : List Int) (cs' : Array Value), e = .returned (.int .u64 c) ∧ Wr cs cs' m outs ∧ w'.heap[gz]? = some (.cells cs' 167 (0, 0)) ∧ Dg (18446744073709551616 : Nat) outs ∧ (0 ≤ c ∧ c < 18446744073709551616) ∧
    val (18446744073709551616 : Nat) outs + (18446744073709551616 : Nat) ^ m * c = val (18446744073709551616 : Nat) (xs.take m) * y + r ∧ w.grownBy w' (some gz)

/-- What holds of the loop's number, digits and carry. -/
structure MaIn (gz gx m : Nat) (xs : List Int) (y r : Int) (cs : Array Value) (w W : World) (k : Nat) (c : Nat) (outs : List Int) (cs' : Array Value) : Prop where
  wr : Wr cs cs' k outs
  blk : W.heap[gz]? = some (.cells cs' 167 (0, 0))
  dg : Dg (18446744073709551616 : Nat) outs
  lt : c < 18446744073709551616
  eq : val (18446744073709551616 : Nat) outs + (18446744073709551616 : Nat) ^ k * (c : Int) = val (18446744073709551616 : Nat) (xs.take k) * y + r
  rest : ∀ i, k ≤ i → i < m → W.cell? ⟨gx, i, none⟩ = some (.int .u64 (xs.getD i 0))
  only : w.grownBy W (some gz)

theorem MaIn.next {gz gx m : Nat} {xs : List Int} {y : Nat} {r : Int} {cs : Array Value} {w W : World} {k c : Nat} {outs : List Int} {cs' : Array Value} (h : MaIn gz gx m xs y r cs w W k c outs cs') (hk : k < m) (hm : m ≤ cs.size) (hl : m ≤ xs.length)
    (x : Nat) (hx : xs.getD k 0 = (x : Int)) (hx1 : x < 18446744073709551616) (hy : y < 18446744073709551616) :
    MaIn gz gx m xs y r cs w (W.setCell ⟨gz, k, none⟩ (.int .u64 (((x * y + c) % 18446744073709551616 : Nat) : Int))) (k + 1) ((x * y + c) / 18446744073709551616) (outs ++ [(((x * y + c) % 18446744073709551616 : Nat) : Int)]) (cs'.setIfInBounds k (.int .u64 (((x * y + c) % 18446744073709551616 : Nat) : Int))) where
  wr := Wr_put h.wr (by omega) _
  blk := blk_set h.blk k _
  dg := Dg_append.2 ⟨h.dg, fun z hz => by rw [List.mem_singleton] at hz; subst hz; omega⟩
  lt := by
    have hp : x * y ≤ 18446744073709551615 * 18446744073709551615 := Nat.mul_le_mul (by omega) (by omega)
    have := h.lt
    omega
  eq := by
    refine mav_step (by omega) h.wr.2.1 h.eq ?_
    rw [hx]
    have := Nat.mod_add_div (x * y + c) 18446744073709551616
    have e : ((x : Int) * (y : Int) + (c : Int)) = ((x * y + c : Nat) : Int) := by push_cast; rfl
    rw [e]
    omega
  rest := fun i h1 h2 => by
    have := h.rest i (by omega) h2
    rw [← this]
    exact World.cell?_setCell_other _ _ _ _ (by intro e; have := congrArg Addr.off e; simp at this; omega)
  only := only_setCell (p := ⟨gz, k, none⟩) h.only (.inl rfl) _

set_option maxHeartbeats 2000000 in
theorem mulAddVWW_g (gz cz gx cx m : Nat) (xs : List Int) (y r : Nat) (cs : Array Value) (w : World) (hm : m ≤ 1000000) (hcz : m ≤ cz) (hcx : m ≤ cx) (hz : w.heap[gz]? = some (.cells cs 167 (0, 0))) (hs : m ≤ cs.size)
    (hx : Cw w gx m xs) (hl : m ≤ xs.length) (hd : Dg (18446744073709551616 : Nat) xs) (hy : y < 18446744073709551616) (hr : r < 18446744073709551616) :
    Calls Tryz.prog 245 #[.slice (some ⟨gz, 0, none⟩) m cz, .slice (some ⟨gx, 0, none⟩) m cx, .int .u64 y, .int .u64 r] w (MaOk gz m xs y r cs w) := by
  have h0 : MaIn gz gx m xs y r cs w w 0 r [] cs := ⟨Wr_zero cs, hz, Dg_nil _, hr, by simp [val], fun i _ h => hx i h, only_refl _ _⟩
  have H0 := Aside0.mk h0
  have HD := Lib.hid hd
  have HY := Aside0.mk hy
  clear hz hx hd hy hr h0
  go_enter Tryz.func245, Tryz.ntmps245
  go_wp2_with fail
  go_loopw [8, 19] (fun c i W => ∃ (k cc : Nat) (outs : List Int) (cs' : Array Value), k ≤ m ∧ i = .int .i64 k ∧ c = .int .u64 cc ∧ MaIn gz gx m xs y r cs w W k cc outs cs') (fun _ i _ => m - (intOf i).toNat)
  case atStart => exact ⟨0, r, [], cs, by omega, rfl, rfl, H0.out⟩
  case round =>
    obtain ⟨k, cc, outs, cs', hk, rfl, rfl, hin⟩ := hrel
    have HI := Aside0.mk hin
    by_cases hlt : k < m
    · have hlt' : (k : Int) < m := by omega
      have hcx' := hin.rest k (Nat.le_refl _) hlt
      have hdk := Dg_get (B := (18446744073709551616 : Nat)) (by decide) HD.out k
      obtain ⟨x, hxk⟩ := Int.eq_ofNat_of_zero_le hdk.1
      rw [hxk] at hcx' hdk
      have HXK := Aside0.mk hxk
      have HX1 : Aside0 (x < 18446744073709551616) := ⟨by omega⟩
      obtain ⟨v0, hv0⟩ : ∃ v0, wr.cell? ⟨gz, k, none⟩ = some v0 := by
        rw [blk_cell hin.blk k]
        have := hin.wr.1
        exact ⟨_, Array.getElem?_eq_getElem (by omega)⟩
      have hfz : wr.frozen? ⟨gz, k, none⟩ = false := blk_frozen hin.blk k
      have HLC := Aside0.mk hin.lt
      clear hin hdk hxk
      go_wp2_with fail
      refine (mulAddWWW x y cc HX1.out HY.out HLC.out _).mono ?_
      rintro e w' ⟨rfl, rfl⟩
      obtain ⟨hi, ehi⟩ : ∃ hi : Nat, hi = (x * y + cc) / 18446744073709551616 := ⟨_, rfl⟩
      obtain ⟨lo, elo⟩ : ∃ lo : Nat, lo = (x * y + cc) % 18446744073709551616 := ⟨_, rfl⟩
      have hnx := HI.out.next hlt hs hl x HXK.out HX1.out HY.out
      rw [← ehi, ← elo] at hnx ⊢
      have HNX := Aside0.mk hnx
      clear hnx ehi elo
      go_wp2_with fail
      go_roundw
      case rel => exact ⟨k + 1, hi, _, _, by omega, by go_num, rfl, HNX.out⟩
      case measure => simp [intOf]; omega
    · have hge : (m : Int) ≤ k := by omega
      clear hin
      go_wp2_with fail
      go_ret
      obtain rfl : k = m := by omega
      have hin := HI.out
      exact ⟨_, outs, cs', rfl, hin.wr, hin.blk, hin.dg, ⟨by omega, by have := hin.lt; omega⟩, hin.eq, hin.only⟩

theorem mulAddVWW_any (gz cz gx cx m : Nat) (xs : List Int) (y r : Nat) (cs : Array Value) (w : World) (hm : m ≤ 1000000) (hcz : m ≤ cz) (hcx : m ≤ cx) (hz : w.heap[gz]? = some (.cells cs 167 (0, 0))) (hs : m ≤ cs.size)
    (hx : Cw w gx m xs) (hl : m ≤ xs.length) (hd : Dg (18446744073709551616 : Nat) xs) (hy : y < 18446744073709551616) (hr : r < 18446744073709551616) :
    Calls Tryz.prog 206 #[.slice (some ⟨gz, 0, none⟩) m cz, .slice (some ⟨gx, 0, none⟩) m cx, .int .u64 y, .int .u64 r] w (MaOk gz m xs y r cs w) := by
  have H := Aside0.mk (mulAddVWW_g gz cz gx cx m xs y r cs w hm hcz hcx hz hs hx hl hd hy hr)
  clear hz hx hd hy hr
  go_enter Tryz.func206, Tryz.ntmps206
  go_wp2_with fail
  refine H.out.mono ?_
  rintro e w' ⟨c, outs, cs', rfl, hW⟩
  have HW := Aside0.mk hW
  clear hW
  go_wp2_with fail
  go_ret
  exact ⟨c, outs, cs', rfl, HW.out⟩
end Go.Proofs.YtgpoplfgngiilaaGreatDoor

namespace Go.Proofs.YtgpoplfgngiilaaGreatDoor
open Go.RowKit Go.Proofs.YtgpoplfgngiilaaGreatDoorW.PrintWords PAll Pl

/-- A nat of the call's own: its words. -/
def Nt (w : World) (base : Nat) (v : Value) (xs : List Int) : Prop := w.ownsRow base 167 1 v xs.length (nums .u64 xs)

theorem Nt_form {w : World} {base : Nat} {v : Value} {xs : List Int} (h : Nt w base v xs) (hne : xs ≠ []) : ∃ g cap cur, v = .slice (some ⟨g, 0, none⟩) xs.length cap ∧ base ≤ g ∧ w.heap[g]? = some (.cells cur 167 (0, 0)) ∧ xs.length ≤ cap ∧ cap ≤ 9223372036854775807 ∧ cur.size = cap ∧ Cw w g xs.length xs := by
  rcases h.2 with ⟨_, h0⟩ | ⟨g, cap, cur, hv, hb, hg, hn, hm, hs, ht⟩
  · exact absurd (List.length_eq_zero_iff.1 h0) hne
  · refine ⟨g, cap, cur, hv, hb, hg, hn, by simpa [maxLen] using hm, by simpa using hs, fun i hi => ?_⟩
    rw [blk_cell hg i]
    have h1 : (cur.toList.take (xs.length * 1))[i]? = (nums .u64 xs)[i]? := by rw [ht]
    rw [List.getElem?_take, if_pos (by omega), Array.getElem?_toList] at h1
    rw [h1]
    simp [nums, List.getD_eq_getElem?_getD, List.getElem?_eq_getElem hi]

theorem Nt_mk {w : World} {base g cap : Nat} {cur : Array Value} {xs : List Int} (hb : base ≤ g) (hg : w.heap[g]? = some (.cells cur 167 (0, 0))) (hn : xs.length ≤ cap) (hm : cap ≤ 9223372036854775807) (hs : cur.size = cap)
    (hc : ∀ i, i < xs.length → cur[i]? = some (.int .u64 (xs.getD i 0))) : Nt w base (.slice (some ⟨g, 0, none⟩) xs.length cap) xs := by
  refine ⟨by simp [nums], .inr ⟨g, cap, cur, rfl, hb, hg, hn, by simpa [maxLen] using hm, by simpa using hs, ?_⟩⟩
  apply List.ext_getElem?
  intro i
  rcases Nat.lt_or_ge i xs.length with hi | hi
  · rw [List.getElem?_take, if_pos (by omega), Array.getElem?_toList, hc i hi]
    simp [nums, List.getD_eq_getElem?_getD, List.getElem?_eq_getElem hi]
  · rw [List.getElem?_take, if_neg (by omega)]
    simp [nums, hi]

theorem Nt_below {w w1 : World} {base : Nat} {v : Value} {xs : List Int} (h : Nt w base v xs) (hb : Below w.heap.size w w1) : Nt w1 base v xs := pw_own_below h hb

/-- Behind mulAddVWW, the carry's word stored, words 0 struck. -/
theorem ma_end {base g cap m i : Nat} {Z y r : Nat} {c : Int} {outs : List Int} {cs cs' : Array Value} {W : World} (hb : base ≤ g) (hcap : m + 1 ≤ cap) (hm : cap ≤ 9223372036854775807) (hs : cs.size = cap)
    (hw : Wr cs cs' m outs) (hg : W.heap[g]? = some (.cells cs' 167 (0, 0))) (hd : Dg (18446744073709551616 : Nat) outs) (hc : 0 ≤ c ∧ c < 18446744073709551616)
    (hv : val (18446744073709551616 : Nat) outs + (18446744073709551616 : Nat) ^ m * c = (Z : Int) * y + r)
    (hi : i ≤ m + 1) (hz : ∀ j, i ≤ j → j < m + 1 → (outs ++ [c]).getD j 0 = 0) (ht : i = 0 ∨ (outs ++ [c]).getD (i - 1) 0 ≠ 0) :
    Nt (W.setCell ⟨g, m, none⟩ (.int .u64 c)) base (.slice (some ⟨g, 0, none⟩) i cap) (figs 18446744073709551616 (Z * y + r)) := by
  have hl : (outs ++ [c]).length = m + 1 := by simp [hw.2.1]
  have hdd : Dg (18446744073709551616 : Nat) (outs ++ [c]) := Dg_append.2 ⟨hd, fun z hz => by rw [List.mem_singleton] at hz; subst hz; exact hc⟩
  have hval : val (18446744073709551616 : Nat) (outs ++ [c]) = ((Z * y + r : Nat) : Int) := by
    rw [val_append, hw.2.1]
    simp only [val, Int.mul_zero, Int.add_zero]
    rw [hv]; push_cast; rfl
  have hf := figs_of_trim (B := 18446744073709551616) (by decide) hdd i (by omega) (fun j h1 h2 => hz j h1 (by omega)) ht
  rw [hval, Int.toNat_natCast] at hf
  rw [← hf]
  have hli : ((outs ++ [c]).take i).length = i := by rw [List.length_take]; omega
  have hw2 := Wr_put hw (by omega) c
  have hk := Nt_mk (w := W.setCell ⟨g, m, none⟩ (.int .u64 c)) (base := base) (g := g) (cap := cap) (cur := cs'.setIfInBounds m (.int .u64 c)) (xs := (outs ++ [c]).take i) hb (blk_set hg m _) (by omega) hm (by rw [hw2.1, hs]) (fun j hj => by
    rw [hli] at hj
    rw [hw2.2.2.1 j (by omega)]
    simp [List.getD_eq_getElem?_getD, hj])
  rw [hli] at hk
  exact hk

theorem setWord_nil (r : Nat) (w : World) (hr0 : 0 < r) :
    Calls Tryz.prog 117 #[.slice none 0 0, .int .u64 r] w fun e w' => e = .returned (.slice (some ⟨w.heap.size, 0, none⟩) 1 1) ∧ w.alloc (.cells #[.int .u64 r] 167) = w' := by
  have b : ((r : Int) == 0) = false := by simp; omega
  clear hr0
  go_enter Tryz.func117, Tryz.ntmps117
  go_wp2_with fail
  refine (make_one _ _).mono ?_
  rintro e w' ⟨rfl, rfl⟩
  go_wp2_with fail
  go_ret
  exact ⟨rfl, rfl⟩

/-- What mulAddWW answers. -/
def MwOk (base Z y r : Nat) (w : World) (e : Ending) (w' : World) : Prop := ∃ v, e = .returned v ∧ Nt w' base v (figs 18446744073709551616 (Z * y + r)) ∧ Below base w w'

set_option maxHeartbeats 1000000 in
theorem mulAddWW_nil (base r y : Nat) (w : World) (hr0 : 0 < r) (hr : r < 18446744073709551616) (hb : base ≤ w.heap.size) :
    Calls Tryz.prog 150 #[.slice none 0 0, .slice none 0 0, .int .u64 y, .int .u64 r] w (MwOk base 0 y r w) := by
  have H := Aside0.mk hr0
  clear hr0
  go_enter Tryz.func150, Tryz.ntmps150
  go_wp2_with fail
  refine (setWord_nil r w H.out).mono ?_
  rintro e w' ⟨rfl, rfl⟩
  go_wp2_with fail
  go_ret
  refine ⟨_, rfl, ?_, (Below.refl _ _).alloc hb _⟩
  rw [Nat.zero_mul, Nat.zero_add, figs_one (by decide) H.out hr]
  exact Nt_mk (xs := [(r : Int)]) hb (heap_alloc_new w _) (by simp) (by decide) rfl (fun i hi => by
    have : i = 0 := by simpa using hi
    subst this; rfl)

set_option maxHeartbeats 2000000 in
set_option maxRecDepth 100000 in
theorem mulAddWW_fit (base g cap m Z y r : Nat) (xs : List Int) (cur : Array Value) (w : World) (hxs : xs = figs 18446744073709551616 Z) (hm : xs.length = m) (hm0 : 0 < m) (hm1 : m ≤ 100000) (hy0 : 0 < y) (hy : y < 18446744073709551616) (hr : r < 18446744073709551616) (hb : base ≤ w.heap.size)
    (hbg : base ≤ g) (hg : w.heap[g]? = some (.cells cur 167 (0, 0))) (hfit : m + 1 ≤ cap) (hcap : cap ≤ 9223372036854775807) (hsz : cur.size = cap) (hc : Cw w g m xs) :
    Calls Tryz.prog 150 #[.slice (some ⟨g, 0, none⟩) m cap, .slice (some ⟨g, 0, none⟩) m cap, .int .u64 y, .int .u64 r] w (MwOk base Z y r w) := by
  have b1 : ((m : Int) == 0) = false := by simp; omega
  have b2 : ((y : Int) == 0) = false := by simp; omega
  have hle : (m : Int) + 1 ≤ cap := by omega
  have hmi : (m : Int) ≤ 100000 := by omega
  have HV := Aside0.mk (mulAddVWW_any g cap g cap m xs y r cur w (by omega) (by omega) (by omega) hg (by omega) hc (by omega) (by rw [hxs]; exact figs_Dg (by decide) Z) hy hr)
  have HVAL : Aside0 (val (18446744073709551616 : Nat) (xs.take m) = Z) := ⟨by rw [← hm, List.take_length, hxs]; exact figs_val (by decide) Z⟩
  have HC := Aside0.mk hcap
  have HS := Aside0.mk hsz
  have HF := Aside0.mk hfit
  have HBG := Aside0.mk hbg
  have HM := Aside0.mk (make_fit (some ⟨g, 0, none⟩) m cap (m + 1) w hfit hcap)
  have e1 : ((m + 1 : Nat) : Int) = (m : Int) + 1 := by omega
  rw [e1] at HM
  have HB := Aside0.mk hb
  have hg1 := blk_lt hg
  clear hxs hg hc hcap hsz hm hy0 hy hr hfit e1
  go_enter Tryz.func150, Tryz.ntmps150
  go_wp2_with fail
  refine HM.out.mono ?_
  rintro e w' ⟨rfl, rfl⟩
  go_wp2_with fail
  refine HV.out.mono ?_
  rintro e w1 ⟨c, outs, cs', rfl, hw, hbk, hd, hcr, hv, ho⟩
  rw [HVAL.out] at hv
  have HW := Aside0.mk hw
  have HBK := Aside0.mk hbk
  have HD := Lib.hid hd
  have HCR := Aside0.mk hcr
  have HVV := Aside0.mk hv
  have HO := Aside0.mk ho
  obtain ⟨v0, hv0⟩ : ∃ v0, w1.cell? ⟨g, m, none⟩ = some v0 := by
    rw [blk_cell hbk m]
    have := hw.1
    exact ⟨_, Array.getElem?_eq_getElem (by have := HS.out; have := HF.out; omega)⟩
  have hfz : w1.frozen? ⟨g, m, none⟩ = false := blk_frozen hbk m
  clear hw hbk hd hcr hv ho
  go_wp2_with fail
  have hw2 := Wr_put HW.out (by have := HS.out; have := HF.out; omega) c
  refine (norm_any g cap (m + 1) (outs ++ [c]) _ HF.out (by omega) HC.out (fun i hi => by
    rw [blk_cell (blk_set HBK.out m _) i]; exact hw2.2.2.1 i hi)).mono ?_
  rintro e w2 ⟨i, hi, hz, ht, rfl, rfl⟩
  have HI := Aside0.mk (And.intro hi (And.intro hz ht))
  clear hw2 hi hz ht
  go_wp2_with fail
  go_ret
  obtain ⟨hi, hz, ht⟩ := HI.out
  refine ⟨_, rfl, ma_end HBG.out HF.out HC.out HS.out HW.out HBK.out HD.out HCR.out HVV.out hi hz ht, ?_⟩
  exact ((Below.refl base w).grown HO.out HB.out (fun k hk => by cases hk; exact HBG.out)).setCell HBG.out _

theorem madeCells_size (m : Nat) : (madeCells #[.int .u64 0] (m + 4)).size = m + 4 := size_madeCells _ _

set_option maxHeartbeats 2000000 in
set_option maxRecDepth 100000 in
theorem mulAddWW_new (base g cap m Z y r : Nat) (xs : List Int) (w : World) (hxs : xs = figs 18446744073709551616 Z) (hm : xs.length = m) (hm0 : 0 < m) (hm1 : m ≤ 100000) (hy0 : 0 < y) (hy : y < 18446744073709551616) (hr : r < 18446744073709551616) (hb : base ≤ w.heap.size)
    (hfit : cap < m + 1) (hmc : m ≤ cap) (hc : Cw w g m xs) :
    Calls Tryz.prog 150 #[.slice (some ⟨g, 0, none⟩) m cap, .slice (some ⟨g, 0, none⟩) m cap, .int .u64 y, .int .u64 r] w (MwOk base Z y r w) := by
  have b1 : ((m : Int) == 0) = false := by simp; omega
  have b2 : ((y : Int) == 0) = false := by simp; omega
  have hmi : (m : Int) ≤ 100000 := by omega
  have hb0 := below_alloc (Below.refl w.heap.size w) (.cells (madeCells #[.int .u64 0] (m + 1 + 4)) 167)
  have HV := Aside0.mk (mulAddVWW_any w.heap.size (m + 1 + 4) g cap m xs y r _ (w.alloc (.cells (madeCells #[.int .u64 0] (m + 1 + 4)) 167)) (by omega) (by omega) (by omega) (heap_alloc_new w _) (by rw [madeCells_size]; omega)
    (fun i hi => pw_cell_below hb0 (hc i hi)) (by omega) (by rw [hxs]; exact figs_Dg (by decide) Z) hy hr)
  have HVAL : Aside0 (val (18446744073709551616 : Nat) (xs.take m) = Z) := ⟨by rw [← hm, List.take_length, hxs]; exact figs_val (by decide) Z⟩
  have HM := Aside0.mk (make_new (some ⟨g, 0, none⟩) m cap (m + 1) w hfit (by omega) (by omega))
  have e1 : ((m + 1 : Nat) : Int) = (m : Int) + 1 := by omega
  rw [e1] at HM
  have HB := Aside0.mk hb
  have HB0 := Aside0.mk hb0
  obtain ⟨W0, hW0⟩ : ∃ W0, W0 = w.alloc (.cells (madeCells #[.int .u64 0] (m + 1 + 4)) 167) := ⟨_, rfl⟩
  rw [← hW0] at HV HM HB0
  have HSZ : Aside0 (w.heap.size < W0.heap.size) := ⟨by rw [hW0]; simp⟩
  obtain ⟨h, hh⟩ : ∃ h, h = w.heap.size := ⟨_, rfl⟩
  rw [← hh] at HV HM HB HB0 HSZ
  have hmz : (m : Int) + 1 ≤ ((m + 1 + 4 : Nat) : Int) := by omega
  clear hxs hc hm hy0 hy hr hfit e1 hb0 hW0 hh hmc hb
  go_enter Tryz.func150, Tryz.ntmps150
  go_wp2_with fail
  refine HM.out.mono ?_
  rintro e w' ⟨rfl, rfl⟩
  go_wp2_with fail
  refine HV.out.mono ?_
  rintro e w1 ⟨c, outs, cs', rfl, hw, hbk, hd, hcr, hv, ho⟩
  rw [HVAL.out] at hv
  have HW := Aside0.mk hw
  have HBK := Aside0.mk hbk
  have HD := Lib.hid hd
  have HCR := Aside0.mk hcr
  have HVV := Aside0.mk hv
  have HO := Aside0.mk ho
  obtain ⟨v0, hv0⟩ : ∃ v0, w1.cell? ⟨h, m, none⟩ = some v0 := by
    rw [blk_cell hbk m]
    have h1 := hw.1
    have h2 := madeCells_size (m + 1)
    exact ⟨_, Array.getElem?_eq_getElem (by omega)⟩
  have hfz : w1.frozen? ⟨h, m, none⟩ = false := blk_frozen hbk m
  clear hw hbk hd hcr hv ho
  go_wp2_with fail
  have hw2 := Wr_put HW.out (by have := madeCells_size (m + 1); omega) c
  refine (norm_any h (m + 1 + 4) (m + 1) (outs ++ [c]) _ (by omega) (by omega) (by omega) (fun i hi => by
    rw [blk_cell (blk_set HBK.out m _) i]; exact hw2.2.2.1 i hi)).mono ?_
  rintro e w2 ⟨i, hi, hz, ht, rfl, rfl⟩
  have HI := Aside0.mk (And.intro hi (And.intro hz ht))
  clear hw2 hi hz ht
  go_wp2_with fail
  go_ret
  obtain ⟨hi, hz, ht⟩ := HI.out
  refine ⟨_, rfl, ma_end HB.out (cap := m + 1 + 4) (by omega) (by omega) (madeCells_size (m + 1)) HW.out HBK.out HD.out HCR.out HVV.out hi hz ht, ?_⟩
  exact ((HB0.out.mono HB.out).grown HO.out (by have := HB.out; have := HSZ.out; omega) (fun k hk => by cases hk; exact HB.out)).setCell HB.out _

/-- mulAddWW of a number that is its own room. -/
theorem mulAddWW_any (base Z y r : Nat) (v : Value) (w : World) (hZ : 0 < Z) (hlen : (figs 18446744073709551616 Z).length ≤ 100000) (hy0 : 0 < y) (hy : y < 18446744073709551616) (hr : r < 18446744073709551616) (hb : base ≤ w.heap.size)
    (ho : Nt w base v (figs 18446744073709551616 Z)) : Calls Tryz.prog 150 #[v, v, .int .u64 y, .int .u64 r] w (MwOk base Z y r w) := by
  obtain ⟨g, cap, cur, rfl, hbg, hg, hn, hcap, hs, hc⟩ := Nt_form ho (figs_ne (by decide) hZ)
  have hm0 : 0 < (figs 18446744073709551616 Z).length := List.length_pos_iff.2 (figs_ne (by decide) hZ)
  rcases Nat.lt_or_ge cap ((figs 18446744073709551616 Z).length + 1) with h | h
  · exact mulAddWW_new base g cap _ Z y r _ w rfl rfl hm0 hlen hy0 hy hr hb h hn hc
  · exact mulAddWW_fit base g cap _ Z y r _ cur w rfl rfl hm0 hlen hy0 hy hr hb hbg hg h hcap hs hc
end Go.Proofs.YtgpoplfgngiilaaGreatDoor

namespace Go.Proofs.YtgpoplfgngiilaaGreatDoor
open Go.RowKit Go.Proofs.YtgpoplfgngiilaaGreatDoorW.PrintWords PAll Pl

theorem pow10_le : ∀ k : Fin 19, (10 : Int) ^ k.val ≤ 1844674407370955161 := by decide +kernel
theorem pow8_le : ∀ k : Fin 21, (8 : Int) ^ k.val ≤ 2305843009213693951 := by decide +kernel

set_option maxHeartbeats 1000000 in
theorem maxPow_10 (w : World) : Calls Tryz.prog 149 #[.int .u64 10] w fun e w' => e = .returned (.tuple #[.int .u64 10000000000000000000, .int .i64 19]) ∧ w = w' := by
  go_enter Tryz.func149, Tryz.ntmps149
  go_wp2_with fail
  go_loop [2, 3] (fun p n => ∃ (k : Nat) (P : Int), 1 ≤ k ∧ k ≤ 19 ∧ n = .int .i64 k ∧ p = .int .u64 P ∧ Aside0 (P = 10 ^ k)) (fun _ n => 19 - (intOf n).toNat)
  case atStart => exact ⟨1, 10, by omega, by omega, rfl, rfl, ⟨rfl⟩⟩
  case round =>
    obtain ⟨k, P, h1, h2, rfl, rfl, hP⟩ := hrel
    by_cases hlt : k < 19
    · have hle := pow10_le ⟨k, hlt⟩
      have hP0 : 0 ≤ P := by rw [hP.out]; exact Int.le_of_lt (Int.pow_pos (by decide))
      rw [← hP.out] at hle
      go_wp2_with fail
      go_round
      case rel => exact ⟨k + 1, P * 10, by omega, by omega, by go_num, rfl, ⟨by rw [hP.out, Int.pow_succ]⟩⟩
      case measure => simp [intOf]; omega
    · obtain rfl : k = 19 := by omega
      have hv : P = 10000000000000000000 := by rw [hP.out]; rfl
      subst hv
      go_wp2_with fail
      refine bodyPost_ret (results_tmp2 rfl _ _ _) rfl ?_
      exact ⟨rfl, rfl⟩

set_option maxHeartbeats 1000000 in
theorem maxPow_8 (w : World) : Calls Tryz.prog 149 #[.int .u64 8] w fun e w' => e = .returned (.tuple #[.int .u64 9223372036854775808, .int .i64 21]) ∧ w = w' := by
  go_enter Tryz.func149, Tryz.ntmps149
  go_wp2_with fail
  go_loop [2, 3] (fun p n => ∃ (k : Nat) (P : Int), 1 ≤ k ∧ k ≤ 21 ∧ n = .int .i64 k ∧ p = .int .u64 P ∧ Aside0 (P = 8 ^ k)) (fun _ n => 21 - (intOf n).toNat)
  case atStart => exact ⟨1, 8, by omega, by omega, rfl, rfl, ⟨rfl⟩⟩
  case round =>
    obtain ⟨k, P, h1, h2, rfl, rfl, hP⟩ := hrel
    by_cases hlt : k < 21
    · have hle := pow8_le ⟨k, hlt⟩
      have hP0 : 0 ≤ P := by rw [hP.out]; exact Int.le_of_lt (Int.pow_pos (by decide))
      rw [← hP.out] at hle
      go_wp2_with fail
      go_round
      case rel => exact ⟨k + 1, P * 8, by omega, by omega, by go_num, rfl, ⟨by rw [hP.out, Int.pow_succ]⟩⟩
      case measure => simp [intOf]; omega
    · obtain rfl : k = 21 := by omega
      have hv : P = 9223372036854775808 := by rw [hP.out]; rfl
      subst hv
      go_wp2_with fail
      refine bodyPost_ret (results_tmp2 rfl _ _ _) rfl ?_
      exact ⟨rfl, rfl⟩

theorem pow_2 : ∀ n : Fin 64, bigall_pow.f 8 2 (n.val : Int) = some (2 ^ n.val) := by decide +kernel
theorem pow_16 : ∀ n : Fin 16, bigall_pow.f 8 16 (n.val : Int) = some (16 ^ n.val) := by decide +kernel
theorem pow_8 : ∀ n : Fin 22, bigall_pow.f 8 8 (n.val : Int) = some (8 ^ n.val) := by decide +kernel
theorem pow_10 : ∀ n : Fin 20, bigall_pow.f 8 10 (n.val : Int) = some (10 ^ n.val) := by decide +kernel
end Go.Proofs.YtgpoplfgngiilaaGreatDoor

namespace Go.Proofs.YtgpoplfgngiilaaGreatDoor
open Go.RowKit Go.Proofs.YtgpoplfgngiilaaGreatDoorW.PrintWords PAll Pl

/-- What holds while Reverse runs. -/
structure RvIn (g n : Nat) (xs : List Int) (cs : Array Value) (w W : World) (i : Nat) (cs' : Array Value) : Prop where
  size : cs'.size = cs.size
  blk : W.heap[g]? = some (.cells cs' 167 (0, 0))
  cell : ∀ p, p < n → cs'[p]? = some (.int .u64 (if i ≤ p ∧ p + i < n then xs.getD p 0 else xs.getD (n - 1 - p) 0))
  only : w.grownBy W (some g)

theorem RvIn.drewN {g n : Nat} {xs : List Int} {cs : Array Value} {w W : World} {i : Nat} {cs' : Array Value} (h : RvIn g n xs cs w W i cs') (m : Nat) : RvIn g n xs cs w (W.drewN m) i cs' :=
  ⟨h.size, blk_drewN h.blk m, h.cell, only_drewN h.only m⟩
theorem RvIn.drew {g n : Nat} {xs : List Int} {cs : Array Value} {w W : World} {i : Nat} {cs' : Array Value} (h : RvIn g n xs cs w W i cs') : RvIn g n xs cs w W.drew i cs' := h.drewN 1

theorem RvIn.next {g n : Nat} {xs : List Int} {cs : Array Value} {w W : World} {k j : Nat} {cs' : Array Value} (h : RvIn g n xs cs w W k cs') (hn : n ≤ cs.size) (hkj : k + j + 1 = n) (hlt : k < j) (x y : Int) (hx : xs.getD k 0 = x) (hy : xs.getD j 0 = y) :
    RvIn g n xs cs w ((W.setCell ⟨g, k, none⟩ (.int .u64 y)).setCell ⟨g, j, none⟩ (.int .u64 x)) (k + 1) ((cs'.setIfInBounds k (.int .u64 y)).setIfInBounds j (.int .u64 x)) where
  size := by simp [h.size]
  blk := blk_set (blk_set h.blk k _) j _
  cell := fun p hp => by
    have hs := h.size
    rw [Array.getElem?_setIfInBounds, Array.getElem?_setIfInBounds]
    by_cases h1 : j = p
    · subst h1
      rw [if_pos rfl, if_pos (by simp; omega), if_neg (by omega), show n - 1 - j = k by omega, hx]
    · rw [if_neg h1]
      by_cases h2 : k = p
      · subst h2
        rw [if_pos rfl, if_pos (by omega), if_neg (by omega), show n - 1 - k = j by omega, hy]
      · rw [if_neg h2, h.cell p hp]
        by_cases h3 : k ≤ p ∧ p + k < n
        · rw [if_pos h3, if_pos (by omega)]
        · rw [if_neg h3, if_neg (by omega)]
  only := only_setCell (p := ⟨g, j, none⟩) (only_setCell (p := ⟨g, k, none⟩) h.only (.inl rfl) _) (.inl rfl) _

/-- What Reverse leaves. -/
def RvOk (g n : Nat) (xs : List Int) (cs : Array Value) (w : World) (e : Ending) (w' : World) : Prop :=
  e = .returned (.tuple #[]) ∧ ∃ cs' : Array Value, cs'.size = cs.size ∧ w'.heap[g]? = some (.cells cs' 167 (0, 0)) ∧ (∀ p, p < n → cs'[p]? = some (.int .u64 (xs.reverse.getD p 0))) ∧ w.grownBy w' (some g)

set_option maxHeartbeats 2000000 in
theorem reverse_any (g c n : Nat) (xs : List Int) (cs : Array Value) (w : World) (hn0 : 0 < n) (hn : n ≤ 100000) (hc : n ≤ c) (hl : xs.length = n) (hg : w.heap[g]? = some (.cells cs 167 (0, 0))) (hs : n ≤ cs.size) (hx : Cw w g n xs) :
    Calls Tryz.prog 152 #[.slice (some ⟨g, 0, none⟩) n c] w (RvOk g n xs cs w) := by
  have h0 : RvIn g n xs cs w w 0 cs := ⟨rfl, hg, fun p hp => by rw [if_pos (by omega), ← blk_cell hg p]; exact hx p hp, only_refl _ _⟩
  have H0 := Aside0.mk h0
  have HL := Aside0.mk hl
  have hn1 : (1 : Int) ≤ n := by omega
  clear hg hx h0 hl
  go_enter Tryz.func152, Tryz.ntmps152
  go_wp2_with fail
  go_loopw [2, 3] (fun i j W => ∃ (k l : Nat) (cs' : Array Value), Aside0 (k + l + 1 = n) ∧ k ≤ l + 1 ∧ l < n ∧ i = .int .i64 k ∧ j = .int .i64 l ∧ RvIn g n xs cs w W k cs') (fun i _ _ => n - (intOf i).toNat)
  case atStart => exact ⟨0, n - 1, cs, ⟨by omega⟩, by omega, by omega, rfl, (by rw [show ((n - 1 : Nat) : Int) = (n : Int) - 1 by omega]), H0.out⟩
  case round =>
    obtain ⟨k, l, cs', hkl, hk1, hln, rfl, rfl, hin⟩ := hrel
    have HI := Aside0.mk hin
    by_cases hlt : k < l
    · have hlt' : (k : Int) < l := by omega
      have hkn : (k : Int) < n := by omega
      have hln' : (l : Int) < n := by omega
      have hck : wr.cell? ⟨g, k, none⟩ = some (.int .u64 (xs.getD k 0)) := by rw [blk_cell hin.blk k, hin.cell k (by omega), if_pos (by have := hkl.out; omega)]
      have hcl : wr.cell? ⟨g, l, none⟩ = some (.int .u64 (xs.getD l 0)) := by rw [blk_cell hin.blk l, hin.cell l (by omega), if_pos (by have := hkl.out; omega)]
      have hfk : wr.frozen? ⟨g, k, none⟩ = false := blk_frozen hin.blk k
      have hfl : wr.frozen? ⟨g, l, none⟩ = false := blk_frozen hin.blk l
      obtain ⟨x, ex⟩ : ∃ x, xs.getD k 0 = x := ⟨_, rfl⟩
      obtain ⟨y, ey⟩ : ∃ y, xs.getD l 0 = y := ⟨_, rfl⟩
      rw [ex] at hck
      rw [ey] at hcl
      have HN := Aside0.mk (hin.next hs hkl.out hlt x y ex ey)
      have hne : k ≠ l := by omega
      clear hin ex ey
      go_wp2_with fail
      go_region
      go_wp2_with fail
      go_roundw
      case rel => exact ⟨k + 1, l - 1, _, ⟨by have := hkl.out; omega⟩, by omega, by omega, by go_num, by go_num, HN.out.drew⟩
      case measure => simp [intOf]; omega
    · clear hin
      have hge : (l : Int) ≤ k := by omega
      go_wp2_with fail
      go_end0
      have hin := HI.out
      have hkl := hkl.out
      have hl := HL.out
      refine ⟨rfl, cs', hin.size, hin.blk, fun p hp => ?_, hin.only⟩
      rw [hin.cell p hp]
      have hr : xs.reverse.getD p 0 = xs.getD (n - 1 - p) 0 := by
        rw [List.getD_eq_getElem?_getD, List.getD_eq_getElem?_getD, List.getElem?_reverse (by omega), hl]
      rw [hr]
      by_cases h1 : k ≤ p ∧ p + k < n
      · rw [if_pos h1]
        congr 3
        rw [show n - 1 - p = p by omega]
      · rw [if_neg h1]

/-- What rshVU leaves. -/
def RsOk (g m : Nat) (xs : List Int) (s : Nat) (cs : Array Value) (w : World) (e : Ending) (w' : World) : Prop :=
  ∃ (c : Int) (outs : List Int) (cs' : Array Value), e = .returned (.int .u64 c) ∧ Wr cs cs' m outs ∧ w'.heap[g]? = some (.cells cs' 167 (0, 0)) ∧ Dg (18446744073709551616 : Nat) outs ∧
    val (18446744073709551616 : Nat) outs = val (18446744073709551616 : Nat) xs / 2 ^ s ∧ w.grownBy w' (some g)

/-- What holds of the loop's number. -/
structure RsIn (g m : Nat) (xs : List Int) (s : Nat) (cs : Array Value) (w W : World) (k : Nat) (outs : List Int) (cs' : Array Value) : Prop where
  wr : Wr cs cs' k outs
  blk : W.heap[g]? = some (.cells cs' 167 (0, 0))
  dg : Dg (18446744073709551616 : Nat) outs
  eq : val (18446744073709551616 : Nat) (xs.take (k + 1)) = 2 ^ s * (val (18446744073709551616 : Nat) outs + (18446744073709551616 : Nat) ^ k * (xs.getD k 0 / 2 ^ s)) + xs.getD 0 0 % 2 ^ s
  only : w.grownBy W (some g)

theorem and63 : ∀ s : Fin 64, bits .and .u64 (s.val : Int) 63 = s.val := by decide +kernel
theorem and64 : ∀ s : Fin 64, 0 < s.val → bits .and .u64 (64 - (s.val : Int)) 63 = 64 - s.val := by decide +kernel

/-- A word's upper bits, and the next one's lower bits above them. -/
theorem shr_or (x y : Int) (s : Nat) (hs0 : 0 < s) (hs : s < 64) (hx0 : 0 ≤ x) (hx : x < 18446744073709551616) (hy0 : 0 ≤ y) (hy : y < 18446744073709551616) :
    bits .or .u64 (x / 2 ^ s) (IntKind.u64.wrap (y * 2 ^ (64 - s))) = x / 2 ^ s + (y % 2 ^ s) * 2 ^ (64 - s) := by
  have hPQ : (2 : Int) ^ s * 2 ^ (64 - s) = 18446744073709551616 := by rw [← Int.pow_add, show s + (64 - s) = 64 by omega]; rfl
  have hP : (0 : Int) < 2 ^ s := Int.pow_pos (by decide)
  have hQ : (0 : Int) < 2 ^ (64 - s) := Int.pow_pos (by decide)
  have hd : y = 2 ^ s * (y / 2 ^ s) + y % 2 ^ s := (Int.mul_ediv_add_emod y (2 ^ s)).symm
  have hr0 : 0 ≤ y % 2 ^ s := Int.emod_nonneg _ (by omega)
  have hr1 : y % 2 ^ s < 2 ^ s := Int.emod_lt_of_pos _ hP
  have hm0 : 0 ≤ (y % 2 ^ s) * 2 ^ (64 - s) := Int.mul_nonneg hr0 (by omega)
  have hm1 : (y % 2 ^ s) * 2 ^ (64 - s) < 18446744073709551616 := by
    rw [← hPQ]; exact Int.mul_lt_mul_of_pos_right hr1 hQ
  have hyq : y * 2 ^ (64 - s) = 18446744073709551616 * (y / 2 ^ s) + (y % 2 ^ s) * 2 ^ (64 - s) := by
    rw [← hPQ]
    have h2 : y * 2 ^ (64 - s) = (2 ^ s * (y / 2 ^ s) + y % 2 ^ s) * 2 ^ (64 - s) := by rw [← hd]
    rw [h2, Int.add_mul]
    congr 1
    rw [Int.mul_assoc, Int.mul_comm (y / 2 ^ s), ← Int.mul_assoc]
  have e3 : IntKind.u64.wrap (y * 2 ^ (64 - s)) = (y % 2 ^ s) * 2 ^ (64 - s) := by
    rw [hyq]
    generalize (y % 2 ^ s) * 2 ^ (64 - s) = M at hm0 hm1
    simp [IntKind.wrap, IntKind.bits, IntKind.signed]; omega
  have hx2 : x / 2 ^ s < 2 ^ (64 - s) := Int.ediv_lt_of_lt_mul hP (by rw [Int.mul_comm, hPQ]; exact hx)
  have hx3 : 0 ≤ x / 2 ^ s := Int.ediv_nonneg hx0 (Int.le_of_lt hP)
  have hx4 : x / 2 ^ s < 18446744073709551616 := Int.lt_of_le_of_lt (Int.ediv_le_self _ hx0) hx
  rw [e3]
  exact bits_join_low .u64 64 (by decide) (fun n a b => wu64 a (by omega)) (64 - s) _ _ hx3 hx2 (by omega) hm0 (Int.mul_emod_left _ _) (by omega)

theorem out_word (x y : Int) (s : Nat) (hs0 : 0 < s) (hs : s < 64) (hx0 : 0 ≤ x) (hx : x < 18446744073709551616) (hy0 : 0 ≤ y) :
    0 ≤ x / 2 ^ s + (y % 2 ^ s) * 2 ^ (64 - s) ∧ x / 2 ^ s + (y % 2 ^ s) * 2 ^ (64 - s) < 18446744073709551616 := by
  have hPQ : (2 : Int) ^ s * 2 ^ (64 - s) = 18446744073709551616 := by rw [← Int.pow_add, show s + (64 - s) = 64 by omega]; rfl
  have hP : (0 : Int) < 2 ^ s := Int.pow_pos (by decide)
  have hQ : (0 : Int) < 2 ^ (64 - s) := Int.pow_pos (by decide)
  have hx2 : x / 2 ^ s < 2 ^ (64 - s) := Int.ediv_lt_of_lt_mul hP (by rw [Int.mul_comm, hPQ]; exact hx)
  have hx3 : 0 ≤ x / 2 ^ s := Int.ediv_nonneg hx0 (Int.le_of_lt hP)
  have hr0 : 0 ≤ y % 2 ^ s := Int.emod_nonneg _ (by omega)
  have hr1 : y % 2 ^ s < 2 ^ s := Int.emod_lt_of_pos _ hP
  have hm0 : 0 ≤ (y % 2 ^ s) * 2 ^ (64 - s) := Int.mul_nonneg hr0 (by omega)
  have hm1 : (y % 2 ^ s + 1) * 2 ^ (64 - s) ≤ 2 ^ s * 2 ^ (64 - s) := Int.mul_le_mul_of_nonneg_right (by omega) (by omega)
  rw [Int.add_mul, hPQ] at hm1
  omega

theorem RsIn.next {g m : Nat} {xs : List Int} {s : Nat} {cs : Array Value} {w W : World} {k : Nat} {outs : List Int} {cs' : Array Value} (h : RsIn g m xs s cs w W k outs cs') (hs0 : 0 < s) (hs : s < 64) (hl : xs.length = m) (hz : m ≤ cs.size) (hk : k + 1 < m) (hd : Dg (18446744073709551616 : Nat) xs)
    (x y : Int) (hx : xs.getD k 0 = x) (hy : xs.getD (k + 1) 0 = y) :
    RsIn g m xs s cs w (W.setCell ⟨g, k, none⟩ (.int .u64 (bits .or .u64 (x / 2 ^ s) (IntKind.u64.wrap (y * 2 ^ (64 - s)))))) (k + 1) (outs ++ [x / 2 ^ s + (y % 2 ^ s) * 2 ^ (64 - s)]) (cs'.setIfInBounds k (.int .u64 (x / 2 ^ s + (y % 2 ^ s) * 2 ^ (64 - s)))) := by
  have dx := Dg_get (B := (18446744073709551616 : Nat)) (by decide) hd k
  have dy := Dg_get (B := (18446744073709551616 : Nat)) (by decide) hd (k + 1)
  rw [hx] at dx
  rw [hy] at dy
  have hPQ : (2 : Int) ^ s * 2 ^ (64 - s) = (18446744073709551616 : Nat) := by rw [← Int.pow_add, show s + (64 - s) = 64 by omega]; rfl
  have ho := out_word x y s hs0 hs dx.1 (by have := dx.2; omega) dy.1
  rw [shr_or x y s hs0 hs dx.1 (by have := dx.2; omega) dy.1 (by have := dy.2; omega)]
  refine ⟨Wr_put h.wr (by omega) _, blk_set h.blk k _, Dg_append.2 ⟨h.dg, fun z hz => by rw [List.mem_singleton] at hz; subst hz; exact ⟨ho.1, by have := ho.2; omega⟩⟩, ?_, only_setCell (p := ⟨g, k, none⟩) h.only (.inl rfl) _⟩
  have h1 := h.eq
  rw [hx] at h1
  have h2 := shr_step (Q := 2 ^ (64 - s)) (q := y / 2 ^ s) (r := y % 2 ^ s) hPQ (by omega) h.wr.2.1 h1 (by rw [hy]; exact (Int.mul_ediv_add_emod y (2 ^ s)).symm)
  rw [hy]
  exact h2

theorem RsIn.drew {g m : Nat} {xs : List Int} {s : Nat} {cs : Array Value} {w W : World} {k : Nat} {outs : List Int} {cs' : Array Value} (h : RsIn g m xs s cs w W k outs cs') : RsIn g m xs s cs w W.drew k outs cs' :=
  ⟨h.wr, blk_drew h.blk, h.dg, h.eq, only_drewN h.only 1⟩

set_option maxHeartbeats 2000000 in
theorem rshVU_g (g c m s : Nat) (xs : List Int) (cs : Array Value) (w : World) (hm0 : 0 < m) (hm : m ≤ 100000) (hc : m ≤ c) (hs0 : 0 < s) (hs : s < 64) (hg : w.heap[g]? = some (.cells cs 167 (0, 0))) (hz : m ≤ cs.size)
    (hx : Cw w g m xs) (hl : xs.length = m) (hd : Dg (18446744073709551616 : Nat) xs) :
    Calls Tryz.prog 241 #[.slice (some ⟨g, 0, none⟩) m c, .slice (some ⟨g, 0, none⟩) m c, .int .u64 s] w (RsOk g m xs s cs w) := by
  have h0 : RsIn g m xs s cs w w 0 [] cs := ⟨Wr_zero cs, hg, Dg_nil _, shr_first (by omega) rfl, only_refl _ _⟩
  have H0 := Aside0.mk h0
  have HX : Hid (∀ i, i < m → cs[i]? = some (.int .u64 (xs.getD i 0))) := Lib.hid (fun i hi => by rw [← blk_cell hg i]; exact hx i hi)
  have HD := Lib.hid hd
  have HL := Aside0.mk hl
  have b1 : ((s : Int) == 0) = false := by simp; omega
  have b2 : ((m : Int) == 0) = false := by simp; omega
  have a1 : bits .and .u64 (s : Int) 63 = s := and63 ⟨s, hs⟩
  have a2 : bits .and .u64 (64 - (s : Int)) 63 = 64 - (s : Int) := and64 ⟨s, hs⟩ hs0
  have hsi : (s : Int) < 64 := by omega
  have hs1 : (1 : Int) ≤ s := by omega
  have hmi : (1 : Int) ≤ m := by omega
  have hc0 := hx 0 hm0
  clear hg hx hd hl h0
  go_enter Tryz.func241, Tryz.ntmps241
  go_wp2_with fail
  go_loopw [8] (fun i W => ∃ (k : Nat) (outs : List Int) (cs' : Array Value), 1 ≤ k ∧ k ≤ m ∧ i = .int .i64 k ∧ RsIn g m xs s cs w W (k - 1) outs cs') (fun i _ => m - (intOf i).toNat)
  case atStart => exact ⟨1, [], cs, Nat.le_refl _, by omega, rfl, H0.out⟩
  case round =>
    obtain ⟨k, outs, cs', hk1, hk, rfl, hin⟩ := hrel
    have HI := Aside0.mk hin
    have hcell : ∀ i, k - 1 ≤ i → i < m → wr.cell? ⟨g, i, none⟩ = some (.int .u64 (xs.getD i 0)) := fun i h1 h2 => by
      rw [blk_cell hin.blk i, hin.wr.2.2.2 i h1]
      exact HX.out i h2
    by_cases hlt : k < m
    · have hlt' : (k : Int) < m := by omega
      have c1 := hcell (k - 1) (Nat.le_refl _) (by omega)
      have c2 := hcell k (by omega) hlt
      obtain ⟨x, ex⟩ : ∃ x, xs.getD (k - 1) 0 = x := ⟨_, rfl⟩
      obtain ⟨y, ey⟩ : ∃ y, xs.getD k 0 = y := ⟨_, rfl⟩
      rw [ex] at c1
      rw [ey] at c2
      have hf1 : wr.frozen? ⟨g, k - 1, none⟩ = false := blk_frozen hin.blk _
      obtain ⟨j, rfl⟩ : ∃ j, k = j + 1 := ⟨k - 1, by omega⟩
      have HNX := Aside0.mk (RsIn.drew (RsIn.next (k := j) hin hs0 hs HL.out hz hlt HD.out x y ex ey))
      rw [show j + 1 - 1 = j from rfl] at c1 hf1
      have hj0 : (0 : Int) ≤ j := by omega
      have hj1 : (j : Int) < m := by omega
      clear hcell hin ex ey
      go_wp2_with fail
      go_region
      go_wp2_with fail
      go_roundw
      case rel => exact ⟨j + 1 + 1, _, _, by omega, by omega, by go_num, HNX.out⟩
      case measure => simp [intOf]; omega
    · obtain rfl : k = m := by omega
      have c1 := hcell (k - 1) (Nat.le_refl _) (by omega)
      obtain ⟨x, ex⟩ : ∃ x, xs.getD (k - 1) 0 = x := ⟨_, rfl⟩
      rw [ex] at c1
      have hf1 : wr.frozen? ⟨g, k - 1, none⟩ = false := blk_frozen hin.blk _
      have EX := Aside0.mk ex
      clear hcell hin ex
      go_wp2_with fail
      go_ret
      have hin := HI.out
      have hP : (0 : Int) < 2 ^ s := Int.pow_pos (by decide)
      have dx := Dg_get (B := (18446744073709551616 : Nat)) (by decide) HD.out (k - 1)
      rw [EX.out] at dx
      have hx4 : x / 2 ^ s < 18446744073709551616 := Int.lt_of_le_of_lt (Int.ediv_le_self _ dx.1) (by have := dx.2; omega)
      have hx3 : 0 ≤ x / 2 ^ s := Int.ediv_nonneg dx.1 (Int.le_of_lt hP)
      have he := hin.eq
      rw [EX.out, show k - 1 + 1 = k by omega, List.take_of_length_le (by have := HL.out; omega)] at he
      have hv := shr_last hP hin.wr.2.1 (Int.emod_nonneg _ (by omega)) (Int.emod_lt_of_pos _ hP) he
      have hw := Wr_put hin.wr (by omega) (x / 2 ^ s)
      rw [show k - 1 + 1 = k by omega] at hw
      exact ⟨_, _, _, rfl, hw, blk_set hin.blk (k - 1) _, Dg_append.2 ⟨hin.dg, fun z hz => by rw [List.mem_singleton] at hz; subst hz; exact ⟨hx3, by omega⟩⟩, hv, only_setCell (p := ⟨g, k - 1, none⟩) hin.only (.inl rfl) _⟩

theorem rshVU_any (g c m s : Nat) (xs : List Int) (cs : Array Value) (w : World) (hm0 : 0 < m) (hm : m ≤ 100000) (hc : m ≤ c) (hs0 : 0 < s) (hs : s < 64) (hg : w.heap[g]? = some (.cells cs 167 (0, 0))) (hz : m ≤ cs.size)
    (hx : Cw w g m xs) (hl : xs.length = m) (hd : Dg (18446744073709551616 : Nat) xs) :
    Calls Tryz.prog 200 #[.slice (some ⟨g, 0, none⟩) m c, .slice (some ⟨g, 0, none⟩) m c, .int .u64 s] w (RsOk g m xs s cs w) := by
  have H := Aside0.mk (rshVU_g g c m s xs cs w hm0 hm hc hs0 hs hg hz hx hl hd)
  clear hg hx hd hl
  go_enter Tryz.func200, Tryz.ntmps200
  go_wp2_with fail
  refine H.out.mono ?_
  rintro e w' ⟨c, outs, cs', rfl, hW⟩
  have HW := Aside0.mk hW
  clear hW
  go_wp2_with fail
  go_ret
  exact ⟨c, outs, cs', rfl, HW.out⟩

/-- What rsh answers. -/
def RhOk (base V : Nat) (w : World) (e : Ending) (w' : World) : Prop := ∃ v, e = .returned v ∧ Nt w' base v (figs 18446744073709551616 V) ∧ Below base w w'

set_option maxHeartbeats 2000000 in
theorem rsh_any (base g cap m s : Nat) (xs : List Int) (cur : Array Value) (w : World) (hm0 : 0 < m) (hm : m ≤ 100000) (hs0 : 0 < s) (hs : s < 64) (hb : base ≤ w.heap.size) (hbg : base ≤ g)
    (hg : w.heap[g]? = some (.cells cur 167 (0, 0))) (hcap : m ≤ cap) (hcm : cap ≤ 9223372036854775807) (hsz : cur.size = cap) (hx : Cw w g m xs) (hl : xs.length = m) (hd : Dg (18446744073709551616 : Nat) xs) :
    Calls Tryz.prog 153 #[.slice (some ⟨g, 0, none⟩) m cap, .slice (some ⟨g, 0, none⟩) m cap, .int .u64 s] w (RhOk base ((val (18446744073709551616 : Nat) xs).toNat / 2 ^ s) w) := by
  have HV := Aside0.mk (rshVU_any g cap m s xs cur w hm0 hm hcap hs0 hs hg (by omega) hx hl hd)
  have HM := Aside0.mk (make_fit (some ⟨g, 0, none⟩) m cap m w hcap hcm)
  have HC := Aside0.mk hcm
  have HZ := Aside0.mk hsz
  have HB := Aside0.mk hb
  have HBG := Aside0.mk hbg
  have b1 : ((s : Int) == 0) = false := by simp; omega
  have hsi : (s : Int) < 64 := by omega
  have hmi : (1 : Int) ≤ m := by omega
  have d1 : (s : Int) / 64 = 0 := by omega
  have d2 : (s : Int) % 64 = s := by omega
  have hci : (m : Int) ≤ cap := by omega
  have hvr := val_range (B := (18446744073709551616 : Nat)) (by decide) hd
  have HVR := Aside0.mk hvr.1
  clear hg hx hd hl hsz hcm hvr hb hbg
  go_enter Tryz.func153, Tryz.ntmps153
  go_wp2_with fail
  refine HM.out.mono ?_
  rintro e w' ⟨rfl, rfl⟩
  go_wp2_with fail
  refine HV.out.mono ?_
  rintro e w1 ⟨c, outs, cs', rfl, hw, hbk, hd, hv, ho⟩
  have HW := Aside0.mk hw
  have HBK := Aside0.mk hbk
  have HD := Lib.hid hd
  have HVV := Aside0.mk hv
  have HO := Aside0.mk ho
  clear hw hbk hd hv ho
  go_wp2_with fail
  refine (norm_any g cap m outs _ hcap (by omega) HC.out (fun i hi => by rw [blk_cell HBK.out i]; exact HW.out.2.2.1 i hi)).mono ?_
  rintro e w2 ⟨i, hi, hz, ht, rfl, rfl⟩
  have HI := Aside0.mk (And.intro hi (And.intro hz ht))
  clear hi hz ht
  go_wp2_with fail
  go_ret
  obtain ⟨hi, hz, ht⟩ := HI.out
  have hol := HW.out.2.1
  have hf := figs_of_trim (B := 18446744073709551616) (by decide) HD.out i (by omega) (fun j h1 h2 => hz j h1 (by omega)) ht
  have hvn : (val (18446744073709551616 : Nat) outs).toNat = (val (18446744073709551616 : Nat) xs).toNat / 2 ^ s := by
    rw [HVV.out]
    have h0 := HVR.out
    obtain ⟨X, hX⟩ := Int.eq_ofNat_of_zero_le h0
    rw [hX, Int.toNat_natCast]
    have : (X : Int) / 2 ^ s = ((X / 2 ^ s : Nat) : Int) := by push_cast; rfl
    rw [this, Int.toNat_natCast]
  rw [hvn] at hf
  refine ⟨_, rfl, ?_, (Below.refl base w).grown HO.out HB.out (fun k hk => by cases hk; exact HBG.out)⟩
  rw [← hf]
  have hli : (outs.take i).length = i := by rw [List.length_take]; omega
  have hk := Nt_mk (w := w1) (base := base) (g := g) (cap := cap) (cur := cs') (xs := outs.take i) HBG.out HBK.out (by omega) HC.out (by rw [HW.out.1, HZ.out]) (fun j hj => by
    rw [hli] at hj
    rw [HW.out.2.2.1 j (by omega)]
    simp [List.getD_eq_getElem?_getD, hj])
  rw [hli] at hk
  exact hk
end Go.Proofs.YtgpoplfgngiilaaGreatDoor

namespace Go.Proofs.YtgpoplfgngiilaaGreatDoor
open Go.RowKit Go.Proofs.YtgpoplfgngiilaaGreatDoorW.PrintWords PAll Pl

/-- The reader's block: the text, the place, the place before. -/
def RdAt (w : World) (g : Nat) (s : ByteArray) (i : Int) (p : Int) : Prop := w.heap[g]? = some (.cells #[.string s, .int .i64 i, .int .i64 p] 189 (0, 0))

set_option maxHeartbeats 2000000 in
set_option maxRecDepth 100000 in
theorem read_some (g : Nat) (s : ByteArray) (i : Nat) (p : Int) (w : World) (hs : s.size ≤ 100000) (hi : i < s.size) (hr : RdAt w g s i p) :
    Calls Tryz.prog 110 #[.pointer (some ⟨g, 0, none⟩)] w fun e w' => e = .returned (.tuple #[.int .u8 (bt s i), .nilIface]) ∧ RdAt w' g s (i + 1 : Nat) (-1) ∧ w.grownBy w' (some g) := by
  have c0 : w.cell? ⟨g, 0, none⟩ = some (.string s) := blk_cell hr 0
  have c1 : w.cell? ⟨g, 1, none⟩ = some (.int .i64 i) := blk_cell hr 1
  have c2 : w.cell? ⟨g, 2, none⟩ = some (.int .i64 p) := blk_cell hr 2
  have f0 : w.frozen? ⟨g, 0, none⟩ = false := blk_frozen hr 0
  have f1 : w.frozen? ⟨g, 1, none⟩ = false := blk_frozen hr 1
  have f2 : w.frozen? ⟨g, 2, none⟩ = false := blk_frozen hr 2
  have hxk : ∀ h : i < s.size, ((s[i]'h).toNat : Int) = bt s (i : Nat) := fun h => (bt_nat s i h).symm
  have hlt : (i : Int) < s.size := by omega
  have HR := Aside0.mk hr
  clear hr
  go_enter Tryz.func110, Tryz.ntmps110
  go_wp2_with fail
  go_quiet (fail)
  go_wp2_with fail
  go_quiet (fail)
  go_wp2_with fail
  refine bodyPost_ret (results_tmp2 rfl _ _ _) rfl ?_
  refine ⟨rfl, ?_, only_setCell (p := ⟨g, 1, none⟩) (only_drewN (only_setCell (p := ⟨g, 2, none⟩) (only_refl _ _) (.inl rfl) _) _) (.inl rfl) _⟩
  exact blk_put (blk_drewN (blk_put HR.out 2 (.int .i64 (-1)) rfl) _) 1 (.int .i64 ((i : Int) + 1)) rfl

set_option maxHeartbeats 2000000 in
set_option maxRecDepth 100000 in
theorem read_end (g : Nat) (s : ByteArray) (i : Nat) (p : Int) (ev : Value) (w : World) (hs : s.size ≤ 100000) (hi : s.size ≤ i) (hi2 : i ≤ 100000) (hr : RdAt w g s i p) (hg : 1 < g) (hev : w.cell? ⟨1, 0, none⟩ = some ev) :
    Calls Tryz.prog 110 #[.pointer (some ⟨g, 0, none⟩)] w fun e w' => e = .returned (.tuple #[.int .u8 0, ev]) ∧ RdAt w' g s i (-1) ∧ w.grownBy w' (some g) := by
  have c0 : w.cell? ⟨g, 0, none⟩ = some (.string s) := blk_cell hr 0
  have c1 : w.cell? ⟨g, 1, none⟩ = some (.int .i64 i) := blk_cell hr 1
  have c2 : w.cell? ⟨g, 2, none⟩ = some (.int .i64 p) := blk_cell hr 2
  have f2 : w.frozen? ⟨g, 2, none⟩ = false := blk_frozen hr 2
  have e1 : (w.setCell ⟨g, 2, none⟩ (.int .i64 (-1))).cell? ⟨1, 0, none⟩ = some ev := (World.cell?_of_block (Below.heap_setCell w ⟨g, 2, none⟩ _ 1 (by simp; omega))).trans hev
  have hle : (s.size : Int) ≤ i := by omega
  have HR := Aside0.mk hr
  clear hr hev
  go_enter Tryz.func110, Tryz.ntmps110
  go_wp2_with fail
  go_quiet (fail)
  go_wp2_with fail
  go_quiet (fail)
  go_wp2_with fail
  refine bodyPost_ret (results_tmp2 rfl _ _ _) rfl ?_
  refine ⟨rfl, ?_, only_drewN (only_drewN (only_setCell (p := ⟨g, 2, none⟩) (only_refl _ _) (.inl rfl) _) _) _⟩
  exact blk_drewN (blk_drewN (blk_put HR.out 2 (.int .i64 (-1)) rfl) _) _

set_option maxHeartbeats 2000000 in
set_option maxRecDepth 100000 in
theorem unread (g : Nat) (s : ByteArray) (i : Nat) (p : Int) (w : World) (hi : i < 100000) (hr : RdAt w g s (i + 1 : Nat) p) :
    Calls Tryz.prog 347 #[.pointer (some ⟨g, 0, none⟩)] w fun e w' => e = .returned .nilIface ∧ RdAt w' g s i (-1) ∧ w.grownBy w' (some g) := by
  have c0 : w.cell? ⟨g, 0, none⟩ = some (.string s) := blk_cell hr 0
  have c1 : w.cell? ⟨g, 1, none⟩ = some (.int .i64 ((i : Int) + 1)) := blk_cell hr 1
  have c2 : w.cell? ⟨g, 2, none⟩ = some (.int .i64 p) := blk_cell hr 2
  have f0 : w.frozen? ⟨g, 0, none⟩ = false := blk_frozen hr 0
  have f1 : w.frozen? ⟨g, 1, none⟩ = false := blk_frozen hr 1
  have f2 : w.frozen? ⟨g, 2, none⟩ = false := blk_frozen hr 2
  have hi0 : (0 : Int) ≤ i := by omega
  have HR := Aside0.mk hr
  clear hr
  go_enter Tryz.func347, Tryz.ntmps347
  go_wp2_with fail
  go_ret
  refine ⟨rfl, ?_, only_setCell (p := ⟨g, 1, none⟩) (only_setCell (p := ⟨g, 2, none⟩) (only_refl _ _) (.inl rfl) _) (.inl rfl) _⟩
  exact blk_put (blk_put HR.out 2 (.int .i64 (-1)) rfl) 1 (.int .i64 (i : Int)) rfl
end Go.Proofs.YtgpoplfgngiilaaGreatDoor

namespace Go.Proofs.YtgpoplfgngiilaaGreatDoor
open Go.RowKit Go.Proofs.YtgpoplfgngiilaaGreatDoorW.PrintWords PAll Pl

set_option maxHeartbeats 2000000 in
theorem scanSign_none (g : Nat) (s : ByteArray) (p : Int) (w : World) (hs0 : 0 < s.size) (hs : s.size ≤ 100000) (h45 : bt s 0 ≠ 45) (h43 : bt s 0 ≠ 43) (hr : RdAt w g s 0 p) :
    Calls Tryz.prog 111 #[.iface 133 (.pointer (some ⟨g, 0, none⟩))] w fun e w' => e = .returned (.tuple #[.bool false, .nilIface]) ∧ RdAt w' g s 0 (-1) ∧ w.grownBy w' (some g) := by
  have H := Aside0.mk (read_some g s 0 p w hs hs0 hr)
  have b1 : (bt s 0 == 45) = false := by simpa using h45
  have b2 : (bt s 0 == 43) = false := by simpa using h43
  clear hr h45 h43
  go_enter Tryz.func111, Tryz.ntmps111
  go_wp2_with fail
  refine H.out.mono ?_
  rintro e w1 ⟨rfl, hr, ho⟩
  have HO := Aside0.mk ho
  have HU := Aside0.mk (unread g s 0 (-1) w1 (by omega) hr)
  clear hr ho
  go_wp2_with fail
  refine HU.out.mono ?_
  rintro e w2 ⟨rfl, hr, ho⟩
  have HR := Aside0.mk hr
  have HO2 := Aside0.mk (only_trans HO.out ho)
  clear hr ho
  go_wp2_with fail
  go_ret2
  exact ⟨rfl, HR.out, HO2.out⟩
end Go.Proofs.YtgpoplfgngiilaaGreatDoor
