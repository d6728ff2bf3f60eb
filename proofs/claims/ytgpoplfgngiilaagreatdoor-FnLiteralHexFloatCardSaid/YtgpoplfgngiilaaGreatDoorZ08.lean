/- bitsDiv64 at a divisor whose highest bit is set; bitsDiv; reciprocalWord. The contract of math/bits.LeadingZeros64 at this program (as the shelf's lay-plain tool writes it). math/bits' Sub and Add with a carry, at this program: the difference and its borrow, the sum and its carry. -/
import Derived.Test.YtgpoplfgngiilaaGreatDoorZ06
import Derived.Test.YtgpoplfgngiilaaGreatDoorZ07
import Derived.Laws.Bits64
import Derived.Lib.Zigzag
import Derived.Test.YtgpoplfgngiilaaGreatDoorProg
import Derived.Shelf.Spec.BitsCarry
set_option linter.unusedVariables false
set_option linter.unusedSimpArgs false
namespace Go.Proofs
open Go.Shelf
def Tryz.lays134_ren : Go.Shelf.Ren := ⟨fun | 134 => 284 | 129 => 277 | n => n, fun | 46 => 50 | 3 => 3 | 53 => 47 | 4 => 4 | 5 => 5 | 9 => 9 | n => n, fun | n => n⟩
theorem Tryz.lays134 : Go.Proofs.Lays.n134 Tryz.prog Tryz.lays134_ren := {
  mixed := by kernel_rfl
  f129 := Tryz.func277.trans (congrArg some (by kernel_rfl))
  f134 := Tryz.func284.trans (congrArg some (by kernel_rfl))
  t3 := Tryz.underlying3
  a3 := Tryz.isAgg3
  z3 := Tryz.sizeOf3
  v3 := Tryz.zeroValue3
  t4 := Tryz.underlying4
  a4 := Tryz.isAgg4
  z4 := Tryz.sizeOf4
  v4 := Tryz.zeroValue4
  t5 := Tryz.underlying5
  a5 := Tryz.isAgg5
  z5 := Tryz.sizeOf5
  v5 := Tryz.zeroValue5
  t9 := Tryz.underlying9
  a9 := Tryz.isAgg9
  z9 := Tryz.sizeOf9
  v9 := Tryz.zeroValue9
  t46 := Tryz.underlying50
  a46 := Tryz.isAgg50
  z46 := Tryz.sizeOf50
  v46 := Tryz.zeroValue50
  t53 := Tryz.underlying47
  a53 := Tryz.isAgg47
  z53 := Tryz.sizeOf47
  v53 := Tryz.zeroValue47 }
theorem Tryz.bits_LeadingZeros64 (x : Int) (w : World) (h0 : 0 ≤ x) (h1 : x ≤ 18446744073709551615) :
    Calls Tryz.prog 284 #[.int .u64 x] w fun e w' => e = .returned (.int .i64 (64 - (Lib.bitLen x.toNat : Int))) ∧ w' = w := Any.bits_LeadingZeros64 Tryz.lays134 x w h0 h1
end Go.Proofs

namespace Go.Proofs.YtgpoplfgngiilaaGreatDoor
open Go.RowKit Go.Proofs.YtgpoplfgngiilaaGreatDoorW.PrintWords PAll Pl Dv

theorem lz64_top (y : Nat) (h63 : 9223372036854775808 ≤ y) (hy : y < 18446744073709551616) (w : World) :
    Calls Tryz.prog 284 #[.int .u64 y] w fun e w' => e = .returned (.int .i64 0) ∧ w' = w := by
  obtain ⟨s, hs, he, a, b⟩ := nlz_is y (by omega) hy
  have h := Tryz.bits_LeadingZeros64 y w (by omega) (by omega)
  rw [Int.toNat_natCast, he] at h
  have h0 : s = 0 := by
    rcases Nat.eq_zero_or_pos s with h | h
    · exact h
    · have : y * 2 ^ 1 ≤ y * 2 ^ s := Nat.mul_le_mul_left _ (Nat.pow_le_pow_right (by omega) h)
      omega
  subst h0
  exact h

/-- What holds at the head of a guess's loop: the figure is not below the guess plus one. -/
def KnI (u u1 y y1 : Nat) (q r : Nat) : Prop := q * y1 + r = u ∧ u * 4294967296 + u1 < (q + 1) * y ∧ r < 4294967296
/-- Behind it: the figure. -/
def KnE (u u1 y : Nat) (q : Nat) : Prop := q < 4294967296 ∧ q * y ≤ u * 4294967296 + u1 ∧ u * 4294967296 + u1 < (q + 1) * y

theorem kn_first (u u1 y y1 y0 : Nat) (hy : y = y1 * 4294967296 + y0) (h1 : 0 < y1) (h1b : y1 < 4294967296) (hu1 : u1 < 4294967296) : KnI u u1 y y1 (u / y1) (u % y1) := by
  refine ⟨by rw [Nat.mul_comm]; exact Nat.div_add_mod u y1, kn_start 4294967296 y y1 y0 u u1 hy h1 hu1, ?_⟩
  have := Nat.mod_lt u h1
  omega
theorem kn_next {u u1 y y1 y0 q r : Nat} (h : KnI u u1 y y1 (q + 1) r) (hy : y = y1 * 4294967296 + y0) (huy : u < y) (hu1 : u1 < 4294967296) (hc : 4294967296 ≤ q + 1 ∨ r * 4294967296 + u1 < (q + 1) * y0) :
    q * y1 + (r + y1) = u ∧ u * 4294967296 + u1 < (q + 1) * y := by
  obtain ⟨a, b, c⟩ := h
  refine ⟨by rw [Nat.succ_mul] at a; omega, kn_step 4294967296 y y1 y0 u u1 (q + 1) r hy a huy hu1 hc⟩
theorem kn_pos {u u1 y y1 y0 q r : Nat} (h : KnI u u1 y y1 q r) (hc : 4294967296 ≤ q ∨ r * 4294967296 + u1 < q * y0) : 0 < q := by
  rcases Nat.eq_zero_or_pos q with h0 | h0
  · subst h0
    rcases hc with h1 | h1 <;> omega
  · exact h0
theorem kn_out {u u1 y y1 y0 q r : Nat} (hq : q * y1 + r = u) (hi : u * 4294967296 + u1 < (q + 1) * y) (hy : y = y1 * 4294967296 + y0) (hy0 : y0 < 4294967296) (huy : u < y) (hc : (q < 4294967296 ∧ q * y0 ≤ r * 4294967296 + u1) ∨ 4294967296 ≤ r) : KnE u u1 y q := by
  obtain ⟨a, b⟩ := kn_end 4294967296 y y1 y0 u u1 q r (by omega) hy hy0 hq huy hi hc
  exact ⟨a, b, hi⟩
/-- The rest of a figure. -/
theorem kn_rest {u u1 y q : Nat} (h : KnE u u1 y q) : u * 4294967296 + u1 - q * y < y ∧ u * 4294967296 + u1 = q * y + (u * 4294967296 + u1 - q * y) := by
  obtain ⟨a, b, c⟩ := h
  rw [Nat.succ_mul] at c
  omega
theorem kn_small {u u1 y y1 q r : Nat} (h : KnI u u1 y y1 q r) (h1 : 2147483648 ≤ y1) (hu : u < 18446744073709551616) : q < 8589934592 := by
  obtain ⟨a, b, c⟩ := h
  apply Nat.lt_of_not_le
  intro hc
  have : 8589934592 * 2147483648 ≤ q * y1 := Nat.mul_le_mul hc h1
  omega
/-- The numbers of a guess's condition, as the code reckons them. -/
theorem kn_wr (q r y0 u1 : Nat) (hq : q < 4294967296) (hy0 : y0 < 4294967296) (hr : r < 4294967296) (hu1 : u1 < 4294967296) :
    IntKind.u64.wrap ((q : Int) * y0) = ((q * y0 : Nat) : Int) ∧ IntKind.u64.wrap (4294967296 * (r : Int)) = ((r * 4294967296 : Nat) : Int) ∧ IntKind.u64.wrap (((r * 4294967296 : Nat) : Int) + u1) = ((r * 4294967296 + u1 : Nat) : Int) := by
  refine ⟨?_, ?_, ?_⟩
  · have : q * y0 ≤ 4294967295 * 4294967295 := Nat.mul_le_mul (by omega) (by omega)
    rw [← Int.natCast_mul]
    generalize q * y0 = z at *
    exact wu64 (by omega) (by omega)
  · rw [wu64 (by omega) (by omega)]; omega
  · rw [wu64 (by omega) (by omega)]; omega

theorem or_zero (x : Int) (h0 : 0 ≤ x) (h1 : x < 18446744073709551616) : bits .or .u64 x 0 = x := by
  have h := bits_join .u64 64 (by decide) (fun n a b => wu64 a (by omega)) 0 x 0 h0 (by omega) (by omega) (by omega) (by omega) (by omega)
  rw [h]; omega
theorem and_low (x : Int) (h0 : 0 ≤ x) (h1 : x < 18446744073709551616) : bits .and .u64 x 4294967295 = x % 4294967296 :=
  bits_mask .u64 64 (by decide) (fun n a b => wu64 a (by omega)) 32 (by decide) _ h0 h1
theorem kn_start_w (hi y1 : Nat) (h : hi < 18446744073709551616) (h1 : 0 < y1) : IntKind.u64.wrap ((hi : Int).tdiv (y1 : Int)) = ((hi / y1 : Nat) : Int) ∧ IntKind.u64.wrap ((hi : Int) - IntKind.u64.wrap (((hi / y1 : Nat) : Int) * (y1 : Int))) = ((hi % y1 : Nat) : Int) ∧ IntKind.u64.wrap ((hi : Int) / (y1 : Int)) = ((hi / y1 : Nat) : Int) := by
  have hle := Nat.div_le_self hi y1
  have e := Nat.div_add_mod hi y1
  have hm := Nat.mod_le hi y1
  refine ⟨?_, ?_, ?_⟩
  · rw [show (hi : Int).tdiv (y1 : Int) = ((hi / y1 : Nat) : Int) from rfl]
    generalize hi / y1 = q at *
    exact wu64 (by omega) (by omega)
  · rw [← Int.natCast_mul, Nat.mul_comm (hi / y1)]
    generalize y1 * (hi / y1) = z at *
    generalize hi % y1 = r at *
    rw [wu64 (n := (z : Int)) (by omega) (by omega), wu64 (by omega) (by omega)]
    omega
  · rw [show (hi : Int) / (y1 : Int) = ((hi / y1 : Nat) : Int) from rfl]
    generalize hi / y1 = q at *
    exact wu64 (by omega) (by omega)
/-- The rest below a figure, as the code reckons it: every step may go round. -/
theorem kn_rest_w (u u1 y q : Nat) (h : q * y ≤ u * 4294967296 + u1) (hr : u * 4294967296 + u1 - q * y < 18446744073709551616) :
    IntKind.u64.wrap (IntKind.u64.wrap (IntKind.u64.wrap ((u : Int) * 4294967296) + u1) - IntKind.u64.wrap ((q : Int) * y)) = ((u * 4294967296 + u1 - q * y : Nat) : Int) := by
  rw [← Int.natCast_mul]
  generalize q * y = z at *
  simp only [IntKind.wrap, IntKind.bits, IntKind.signed]
  simp
  omega
theorem kn_last_w (q1 q0 : Nat) (h1 : q1 < 4294967296) (h0 : q0 < 4294967296) : IntKind.u64.wrap (IntKind.u64.wrap ((q1 : Int) * 4294967296) + q0) = ((q1 * 4294967296 + q0 : Nat) : Int) := by
  rw [wu64 (n := (q1 : Int) * 4294967296) (by omega) (by omega), wu64 (by omega) (by omega)]
  omega
/-- Two figures. -/
theorem kn_all {hi lo y u1 u0 q1 q0 r1 r0 : Nat} (hy : 0 < y) (hlo : lo = u1 * 4294967296 + u0) (hu0 : u0 < 4294967296) (h1 : KnE hi u1 y q1) (hr1 : r1 = hi * 4294967296 + u1 - q1 * y) (h0 : KnE r1 u0 y q0) (hr0 : r0 = r1 * 4294967296 + u0 - q0 * y) :
    (hi * 18446744073709551616 + lo) / y = q1 * 4294967296 + q0 ∧ (hi * 18446744073709551616 + lo) % y = r0 := by
  obtain ⟨a1, a2⟩ := kn_rest h1
  obtain ⟨b1, b2⟩ := kn_rest h0
  rw [← hr1] at a1 a2
  rw [← hr0] at b1 b2
  have e := kn_two 4294967296 y hi u1 u0 q1 r1 q0 r0 a2 b2
  have e2 : hi * 18446744073709551616 + lo = y * (q1 * 4294967296 + q0) + r0 := by rw [Nat.mul_comm y, ← e, hlo]
  rw [e2]
  constructor
  · rw [Nat.mul_add_div hy, Nat.div_eq_of_lt b1, Nat.add_zero]
  · rw [Nat.mul_add_mod, Nat.mod_eq_of_lt b1]

/-- What the division of two words by one answers. -/
def DvOk (hi lo y : Nat) (w : World) (e : Ending) (w' : World) : Prop := e = .returned (.tuple #[.int .u64 (((hi * 18446744073709551616 + lo) / y : Nat) : Int), .int .u64 (((hi * 18446744073709551616 + lo) % y : Nat) : Int)]) ∧ Below w.heap.size w w'

set_option maxHeartbeats 4000000 in
set_option maxRecDepth 100000 in
theorem div64_big (hi lo y : Nat) (h63 : 9223372036854775808 ≤ y) (hy : y < 18446744073709551616) (hh : hi < y) (h0 : 0 < hi) (hlo : lo < 18446744073709551616) (w : World) :
    Calls Tryz.prog 280 #[.int .u64 hi, .int .u64 lo, .int .u64 y] w (DvOk hi lo y w) := by
  have H := fun W => lz64_top y h63 hy W
  have c1 : ((y : Int) == 0) = false := beq_eq_false_iff_ne.mpr (by omega)
  have c2 : decide ((y : Int) ≤ hi) = false := decide_eq_false (by omega)
  have c3 : ((hi : Int) == 0) = false := beq_eq_false_iff_ne.mpr (by omega)
  have HH := Lib.hid H
  obtain ⟨y1, hy1⟩ : ∃ y1, y1 = y / 4294967296 := ⟨_, rfl⟩
  obtain ⟨y0, hy0⟩ : ∃ y0, y0 = y % 4294967296 := ⟨_, rfl⟩
  obtain ⟨u1, hu1⟩ : ∃ u1, u1 = lo / 4294967296 := ⟨_, rfl⟩
  obtain ⟨u0, hu0⟩ : ∃ u0, u0 = lo % 4294967296 := ⟨_, rfl⟩
  have e1 := Aside0.mk (show bits .or .u64 (hi : Int) ((lo : Int) / 18446744073709551616) = hi by rw [Int.ediv_eq_zero_of_lt (by omega) (by omega)]; exact or_zero _ (by omega) (by omega))
  have e2 := Aside0.mk (show (y : Int) / 4294967296 = y1 by omega)
  have e3 := Aside0.mk (show (lo : Int) / 4294967296 = u1 by omega)
  have e4 := Aside0.mk (show bits .and .u64 (y : Int) 4294967295 = y0 by rw [and_low _ (by omega) (by omega)]; omega)
  have e5 := Aside0.mk (show bits .and .u64 (lo : Int) 4294967295 = u0 by rw [and_low _ (by omega) (by omega)]; omega)
  obtain ⟨s1, s2, -⟩ := kn_start_w hi y1 (by omega) (by omega)
  have S1 := Aside0.mk s1
  have S2 := Aside0.mk s2
  have K1 := Aside0.mk (kn_first hi u1 y y1 y0 (by omega) (by omega) (by omega) (by omega))
  have HY := Aside0.mk (show y = y1 * 4294967296 + y0 by omega)
  have HLO := Aside0.mk (show lo = u1 * 4294967296 + u0 by omega)
  have HB := Aside0.mk (show 2147483648 ≤ y1 ∧ y1 < 4294967296 ∧ y0 < 4294967296 ∧ u1 < 4294967296 ∧ u0 < 4294967296 by omega)
  have HHI := Aside0.mk (show hi < y ∧ y < 18446744073709551616 from ⟨hh, hy⟩)
  have hne : ¬ (y1 : Int) = 0 := by omega
  have hny : ¬ y ≤ hi := by omega
  have hn0 : ¬ y = 0 := by omega
  have hi0 : ¬ hi = 0 := by omega
  clear s1 s2 hy1 hy0 hu1 hu0 H
  go_enter Tryz.func280, Tryz.ntmps280
  go_wp2_with (first | (go_at_call 284; refine (HH.out _).mono ?_; rintro e w' ⟨rfl, rfl⟩; try (rw [e1.out, e2.out])))
  rw [e1.out, e2.out, e3.out, e4.out, e5.out, S1.out, S2.out]
  obtain ⟨hq, hqe⟩ : ∃ q, q = hi / y1 := ⟨_, rfl⟩
  obtain ⟨hr, hre⟩ : ∃ r, r = hi % y1 := ⟨_, rfl⟩
  rw [← hqe, ← hre] at K1 ⊢
  clear e1 e2 e3 e4 e5 S1 S2 hqe hre h63 hy hh h0 hlo
  have HU := Aside0.mk HHI.out.1
  have HYL := Aside0.mk HHI.out.2
  go_loop [15, 16] (fun q r => ∃ (Q R : Nat) (RI : Int), q = .int .u64 Q ∧ r = .int .u64 RI ∧ Aside0 (RI = (R : Nat)) ∧ Aside0 (KnI hi u1 y y1 Q R)) (fun q _ => (intOf q).toNat)
  case atStart => exact ⟨_, _, _, rfl, rfl, ⟨rfl⟩, K1⟩
  case round =>
    obtain ⟨Q, R, RI, rfl, rfl, HRI, HI⟩ := hrel
    have hRb := HI.out.2.2
    have hRI0 : 0 ≤ RI := by rw [HRI.out]; exact Int.natCast_nonneg _
    have hRI1 : RI < 4294967296 := by rw [HRI.out]; omega
    have hy1b := HB.out.2.1
    by_cases hq : 4294967296 ≤ Q
    · have hqd : decide ((4294967296 : Int) ≤ (Q : Int)) = true := decide_eq_true (by omega)
      have HCD : Aside0 (4294967296 ≤ Q ∨ R * 4294967296 + u1 < Q * y0) := ⟨.inl hq⟩
      have hQm : Q < 8589934592 := kn_small HI.out HB.out.1 (by have := HU.out; have := HYL.out; omega)
      obtain ⟨P, hP⟩ : ∃ P, Q = P + 1 := ⟨Q - 1, by have := kn_pos HI.out HCD.out; omega⟩
      obtain ⟨n1, n2⟩ := kn_next (q := P) (r := R) (by rw [← hP]; exact HI.out) HY.out HU.out (by have := HB.out; omega) (by rw [← hP]; exact HCD.out)
      have HP := Aside0.mk hP
      have hQ1 : (1 : Int) ≤ Q := by omega
      have hQP : (Q : Int) - 1 = P := by omega
      have HQP := Aside0.mk hQP
      have N1 := Aside0.mk n1
      have N2 := Aside0.mk n2
      clear n1 n2 hP hQP
      have hY1 : (y1 : Int) < 4294967296 := by omega
      skip
      by_cases hbr : 4294967296 ≤ R + y1
      · have hbd : decide ((4294967296 : Int) ≤ RI + y1) = true := decide_eq_true (by rw [HRI.out]; omega)
        have HBR := Aside0.mk hbr
        clear hbr
        go_upto_region 22 with (fail)
        rw [HQP.out]
        have HE : Aside0 (KnE hi u1 y P) := ⟨kn_out N1.out N2.out HY.out HB.out.2.2.1 HU.out (.inr HBR.out)⟩
        obtain ⟨r1, hr1⟩ : ∃ r1, r1 = hi * 4294967296 + u1 - P * y := ⟨_, rfl⟩
        have hrl := (kn_rest HE.out).1
        rw [kn_rest_w hi u1 y P HE.out.2.1 (by have := HYL.out; omega), ← hr1]
        rw [← hr1] at hrl
        have HR1 := Aside0.mk hr1
        clear hr1
        go_wp2
        obtain ⟨s1, s2, s3⟩ := kn_start_w r1 y1 (by have := HYL.out; omega) (by have := HB.out; omega)
        rw [s3, s2]
        have HQ1 : Aside0 (KnE hi u1 y P) := HE
        obtain ⟨q1, hq1⟩ : ∃ q1, q1 = P := ⟨_, rfl⟩
        rw [← hq1] at HQ1 HR1 ⊢
        have K2 := Aside0.mk (kn_first r1 u0 y y1 y0 HY.out (by have := HB.out; omega) (by have := HB.out; omega) (by have := HB.out; omega))
        have HU := Aside0.mk hrl
        obtain ⟨q2, hq2⟩ : ∃ q, q = r1 / y1 := ⟨_, rfl⟩
        obtain ⟨r2, hr2⟩ : ∃ r, r = r1 % y1 := ⟨_, rfl⟩
        rw [← hq2, ← hr2] at K2 ⊢
        clear s1 s2 s3 hrl hq1 hq2 hr2 HE HI
        go_loop [18, 16] (fun q r => ∃ (Q R : Nat) (RI : Int), q = .int .u64 Q ∧ r = .int .u64 RI ∧ Aside0 (RI = (R : Nat)) ∧ Aside0 (KnI r1 u0 y y1 Q R)) (fun q _ => (intOf q).toNat)
        case atStart => exact ⟨_, _, _, rfl, rfl, ⟨rfl⟩, K2⟩
        case round =>
          obtain ⟨Q, R, RI, rfl, rfl, HRI, HI⟩ := hrel
          have hRb := HI.out.2.2
          have hRI0 : 0 ≤ RI := by rw [HRI.out]; exact Int.natCast_nonneg _
          have hRI1 : RI < 4294967296 := by rw [HRI.out]; omega
          have hy1b := HB.out.2.1
          by_cases hq : 4294967296 ≤ Q
          · have hqd : decide ((4294967296 : Int) ≤ (Q : Int)) = true := decide_eq_true (by omega)
            have HCD : Aside0 (4294967296 ≤ Q ∨ R * 4294967296 + u0 < Q * y0) := ⟨.inl hq⟩
            have hQm : Q < 8589934592 := kn_small HI.out HB.out.1 (by have := HU.out; have := HYL.out; omega)
            obtain ⟨P, hP⟩ : ∃ P, Q = P + 1 := ⟨Q - 1, by have := kn_pos HI.out HCD.out; omega⟩
            obtain ⟨n1, n2⟩ := kn_next (q := P) (r := R) (by rw [← hP]; exact HI.out) HY.out HU.out (by have := HB.out; omega) (by rw [← hP]; exact HCD.out)
            have HP := Aside0.mk hP
            have hQ1 : (1 : Int) ≤ Q := by omega
            have hQP : (Q : Int) - 1 = P := by omega
            have HQP := Aside0.mk hQP
            have N1 := Aside0.mk n1
            have N2 := Aside0.mk n2
            clear n1 n2 hP hQP
            have hY1 : (y1 : Int) < 4294967296 := by omega
            skip
            by_cases hbr : 4294967296 ≤ R + y1
            · have hbd : decide ((4294967296 : Int) ≤ RI + y1) = true := decide_eq_true (by rw [HRI.out]; omega)
              have HBR := Aside0.mk hbr
              clear hbr
              go_wp2
              rw [HQP.out]
              have HE : Aside0 (KnE r1 u0 y P) := ⟨kn_out N1.out N2.out HY.out HB.out.2.2.1 HU.out (.inr HBR.out)⟩
              rw [kn_rest_w r1 u0 y P HE.out.2.1 (by have := (kn_rest HE.out).1; have := HYL.out; omega), kn_last_w q1 P HQ1.out.1 HE.out.1]
              refine bodyPost_ret (results_tmp2 rfl _ _ _) rfl ?_
              obtain ⟨f1, f2⟩ := kn_all (by omega) HLO.out HB.out.2.2.2.2 HQ1.out HR1.out HE.out rfl
              rw [DvOk, f1, f2]
              exact ⟨rfl, by repeat (first | exact Below.refl _ _ | apply below_drew1 | apply pw_below_drewN)⟩
            · have hbd : decide ((4294967296 : Int) ≤ RI + y1) = false := decide_eq_false (by rw [HRI.out]; omega)
              have HBN := Aside0.mk hbr
              clear hbr
              go_wp2
              go_round
              case rel => exact ⟨P, R + y1, RI + y1, by first | rfl | (rw [← HQP.out]; done) | (rw [← HQP.out]; go_num), by first | rfl | go_num, ⟨by rw [HRI.out]; push_cast; rfl⟩, ⟨N1.out, N2.out, Nat.lt_of_not_le HBN.out⟩⟩
              case measure => have := HP.out; first | (simp [intOf]; done) | (simp [intOf]; omega)
          · have hqd : decide ((4294967296 : Int) ≤ (Q : Int)) = false := decide_eq_false (by omega)
            obtain ⟨k1, k2, k3⟩ := kn_wr Q R y0 u0 (by omega) HB.out.2.2.1 HI.out.2.2 (by have := HB.out; omega)
            rw [← k2] at k3
            obtain ⟨z, hz⟩ : ∃ z, z = Q * y0 := ⟨_, rfl⟩
            obtain ⟨T, hT⟩ : ∃ T, T = R * 4294967296 + u0 := ⟨_, rfl⟩
            rw [← hz] at k1
            rw [← hT, ← HRI.out] at k3
            have HQL : Aside0 (Q < 4294967296) := ⟨by omega⟩
            clear k2 hRb hy1b hRI0 hRI1
            by_cases hc : T < z
            · have hcd : decide ((T : Int) < (z : Int)) = true := decide_eq_true (by omega)
              have HCD : Aside0 (4294967296 ≤ Q ∨ R * 4294967296 + u0 < Q * y0) := ⟨.inr (by rw [← hz, ← hT]; exact hc)⟩
              clear hz hT
              go_upto_region 25 with (fail)
              have hRb := HI.out.2.2
              have hRI0 : 0 ≤ RI := by rw [HRI.out]; exact Int.natCast_nonneg _
              have hRI1 : RI < 4294967296 := by rw [HRI.out]; omega
              have hy1b := HB.out.2.1
              have hQm : Q < 8589934592 := by have := HQL.out; omega
              clear k1 k3 hcd hqd hc hq
              obtain ⟨P, hP⟩ : ∃ P, Q = P + 1 := ⟨Q - 1, by have := kn_pos HI.out HCD.out; omega⟩
              obtain ⟨n1, n2⟩ := kn_next (q := P) (r := R) (by rw [← hP]; exact HI.out) HY.out HU.out (by have := HB.out; omega) (by rw [← hP]; exact HCD.out)
              have HP := Aside0.mk hP
              have hQ1 : (1 : Int) ≤ Q := by omega
              have hQP : (Q : Int) - 1 = P := by omega
              have HQP := Aside0.mk hQP
              have N1 := Aside0.mk n1
              have N2 := Aside0.mk n2
              clear n1 n2 hP hQP
              have hY1 : (y1 : Int) < 4294967296 := by omega
              skip
              by_cases hbr : 4294967296 ≤ R + y1
              · have hbd : decide ((4294967296 : Int) ≤ RI + y1) = true := decide_eq_true (by rw [HRI.out]; omega)
                have HBR := Aside0.mk hbr
                clear hbr
                go_wp2
                rw [HQP.out]
                have HE : Aside0 (KnE r1 u0 y P) := ⟨kn_out N1.out N2.out HY.out HB.out.2.2.1 HU.out (.inr HBR.out)⟩
                rw [kn_rest_w r1 u0 y P HE.out.2.1 (by have := (kn_rest HE.out).1; have := HYL.out; omega), kn_last_w q1 P HQ1.out.1 HE.out.1]
                refine bodyPost_ret (results_tmp2 rfl _ _ _) rfl ?_
                obtain ⟨f1, f2⟩ := kn_all (by omega) HLO.out HB.out.2.2.2.2 HQ1.out HR1.out HE.out rfl
                rw [DvOk, f1, f2]
                exact ⟨rfl, by repeat (first | exact Below.refl _ _ | apply below_drew1 | apply pw_below_drewN)⟩
              · have hbd : decide ((4294967296 : Int) ≤ RI + y1) = false := decide_eq_false (by rw [HRI.out]; omega)
                have HBN := Aside0.mk hbr
                clear hbr
                go_wp2
                go_round
                case rel => exact ⟨P, R + y1, RI + y1, by first | rfl | (rw [← HQP.out]; done) | (rw [← HQP.out]; go_num), by first | rfl | go_num, ⟨by rw [HRI.out]; push_cast; rfl⟩, ⟨N1.out, N2.out, Nat.lt_of_not_le HBN.out⟩⟩
                case measure => have := HP.out; first | (simp [intOf]; done) | (simp [intOf]; omega)
            · have hcd : decide ((T : Int) < (z : Int)) = false := decide_eq_false (by omega)
              have HE : Aside0 (KnE r1 u0 y Q) := ⟨kn_out HI.out.1 HI.out.2.1 HY.out HB.out.2.2.1 HU.out (.inl ⟨HQL.out, by rw [← hz, ← hT]; omega⟩)⟩
              clear hz hT
              go_wp2
              rw [kn_rest_w r1 u0 y Q HE.out.2.1 (by have := (kn_rest HE.out).1; have := HYL.out; omega), kn_last_w q1 Q HQ1.out.1 HE.out.1]
              refine bodyPost_ret (results_tmp2 rfl _ _ _) rfl ?_
              obtain ⟨f1, f2⟩ := kn_all (by omega) HLO.out HB.out.2.2.2.2 HQ1.out HR1.out HE.out rfl
              rw [DvOk, f1, f2]
              exact ⟨rfl, by repeat (first | exact Below.refl _ _ | apply below_drew1 | apply pw_below_drewN)⟩
      · have hbd : decide ((4294967296 : Int) ≤ RI + y1) = false := decide_eq_false (by rw [HRI.out]; omega)
        have HBN := Aside0.mk hbr
        clear hbr
        go_wp2
        go_round
        case rel => exact ⟨P, R + y1, RI + y1, by first | rfl | (rw [← HQP.out]; done) | (rw [← HQP.out]; go_num), by first | rfl | go_num, ⟨by rw [HRI.out]; push_cast; rfl⟩, ⟨N1.out, N2.out, Nat.lt_of_not_le HBN.out⟩⟩
        case measure => have := HP.out; first | (simp [intOf]; done) | (simp [intOf]; omega)
    · have hqd : decide ((4294967296 : Int) ≤ (Q : Int)) = false := decide_eq_false (by omega)
      obtain ⟨k1, k2, k3⟩ := kn_wr Q R y0 u1 (by omega) HB.out.2.2.1 HI.out.2.2 (by have := HB.out; omega)
      rw [← k2] at k3
      obtain ⟨z, hz⟩ : ∃ z, z = Q * y0 := ⟨_, rfl⟩
      obtain ⟨T, hT⟩ : ∃ T, T = R * 4294967296 + u1 := ⟨_, rfl⟩
      rw [← hz] at k1
      rw [← hT, ← HRI.out] at k3
      have HQL : Aside0 (Q < 4294967296) := ⟨by omega⟩
      clear k2 hRb hy1b hRI0 hRI1
      by_cases hc : T < z
      · have hcd : decide ((T : Int) < (z : Int)) = true := decide_eq_true (by omega)
        have HCD : Aside0 (4294967296 ≤ Q ∨ R * 4294967296 + u1 < Q * y0) := ⟨.inr (by rw [← hz, ← hT]; exact hc)⟩
        clear hz hT
        go_upto_region 18 with (fail)
        have hRb := HI.out.2.2
        have hRI0 : 0 ≤ RI := by rw [HRI.out]; exact Int.natCast_nonneg _
        have hRI1 : RI < 4294967296 := by rw [HRI.out]; omega
        have hy1b := HB.out.2.1
        have hQm : Q < 8589934592 := by have := HQL.out; omega
        clear k1 k3 hcd hqd hc hq
        obtain ⟨P, hP⟩ : ∃ P, Q = P + 1 := ⟨Q - 1, by have := kn_pos HI.out HCD.out; omega⟩
        obtain ⟨n1, n2⟩ := kn_next (q := P) (r := R) (by rw [← hP]; exact HI.out) HY.out HU.out (by have := HB.out; omega) (by rw [← hP]; exact HCD.out)
        have HP := Aside0.mk hP
        have hQ1 : (1 : Int) ≤ Q := by omega
        have hQP : (Q : Int) - 1 = P := by omega
        have HQP := Aside0.mk hQP
        have N1 := Aside0.mk n1
        have N2 := Aside0.mk n2
        clear n1 n2 hP hQP
        have hY1 : (y1 : Int) < 4294967296 := by omega
        skip
        by_cases hbr : 4294967296 ≤ R + y1
        · have hbd : decide ((4294967296 : Int) ≤ RI + y1) = true := decide_eq_true (by rw [HRI.out]; omega)
          have HBR := Aside0.mk hbr
          clear hbr
          go_upto_region 22 with (fail)
          rw [HQP.out]
          have HE : Aside0 (KnE hi u1 y P) := ⟨kn_out N1.out N2.out HY.out HB.out.2.2.1 HU.out (.inr HBR.out)⟩
          obtain ⟨r1, hr1⟩ : ∃ r1, r1 = hi * 4294967296 + u1 - P * y := ⟨_, rfl⟩
          have hrl := (kn_rest HE.out).1
          rw [kn_rest_w hi u1 y P HE.out.2.1 (by have := HYL.out; omega), ← hr1]
          rw [← hr1] at hrl
          have HR1 := Aside0.mk hr1
          clear hr1
          go_wp2
          obtain ⟨s1, s2, s3⟩ := kn_start_w r1 y1 (by have := HYL.out; omega) (by have := HB.out; omega)
          rw [s3, s2]
          have HQ1 : Aside0 (KnE hi u1 y P) := HE
          obtain ⟨q1, hq1⟩ : ∃ q1, q1 = P := ⟨_, rfl⟩
          rw [← hq1] at HQ1 HR1 ⊢
          have K2 := Aside0.mk (kn_first r1 u0 y y1 y0 HY.out (by have := HB.out; omega) (by have := HB.out; omega) (by have := HB.out; omega))
          have HU := Aside0.mk hrl
          obtain ⟨q2, hq2⟩ : ∃ q, q = r1 / y1 := ⟨_, rfl⟩
          obtain ⟨r2, hr2⟩ : ∃ r, r = r1 % y1 := ⟨_, rfl⟩
          rw [← hq2, ← hr2] at K2 ⊢
          clear s1 s2 s3 hrl hq1 hq2 hr2 HE HI
          go_loop [18, 16] (fun q r => ∃ (Q R : Nat) (RI : Int), q = .int .u64 Q ∧ r = .int .u64 RI ∧ Aside0 (RI = (R : Nat)) ∧ Aside0 (KnI r1 u0 y y1 Q R)) (fun q _ => (intOf q).toNat)
          case atStart => exact ⟨_, _, _, rfl, rfl, ⟨rfl⟩, K2⟩
          case round =>
            obtain ⟨Q, R, RI, rfl, rfl, HRI, HI⟩ := hrel
            have hRb := HI.out.2.2
            have hRI0 : 0 ≤ RI := by rw [HRI.out]; exact Int.natCast_nonneg _
            have hRI1 : RI < 4294967296 := by rw [HRI.out]; omega
            have hy1b := HB.out.2.1
            by_cases hq : 4294967296 ≤ Q
            · have hqd : decide ((4294967296 : Int) ≤ (Q : Int)) = true := decide_eq_true (by omega)
              have HCD : Aside0 (4294967296 ≤ Q ∨ R * 4294967296 + u0 < Q * y0) := ⟨.inl hq⟩
              have hQm : Q < 8589934592 := kn_small HI.out HB.out.1 (by have := HU.out; have := HYL.out; omega)
              obtain ⟨P, hP⟩ : ∃ P, Q = P + 1 := ⟨Q - 1, by have := kn_pos HI.out HCD.out; omega⟩
              obtain ⟨n1, n2⟩ := kn_next (q := P) (r := R) (by rw [← hP]; exact HI.out) HY.out HU.out (by have := HB.out; omega) (by rw [← hP]; exact HCD.out)
              have HP := Aside0.mk hP
              have hQ1 : (1 : Int) ≤ Q := by omega
              have hQP : (Q : Int) - 1 = P := by omega
              have HQP := Aside0.mk hQP
              have N1 := Aside0.mk n1
              have N2 := Aside0.mk n2
              clear n1 n2 hP hQP
              have hY1 : (y1 : Int) < 4294967296 := by omega
              skip
              by_cases hbr : 4294967296 ≤ R + y1
              · have hbd : decide ((4294967296 : Int) ≤ RI + y1) = true := decide_eq_true (by rw [HRI.out]; omega)
                have HBR := Aside0.mk hbr
                clear hbr
                go_wp2
                rw [HQP.out]
                have HE : Aside0 (KnE r1 u0 y P) := ⟨kn_out N1.out N2.out HY.out HB.out.2.2.1 HU.out (.inr HBR.out)⟩
                rw [kn_rest_w r1 u0 y P HE.out.2.1 (by have := (kn_rest HE.out).1; have := HYL.out; omega), kn_last_w q1 P HQ1.out.1 HE.out.1]
                refine bodyPost_ret (results_tmp2 rfl _ _ _) rfl ?_
                obtain ⟨f1, f2⟩ := kn_all (by omega) HLO.out HB.out.2.2.2.2 HQ1.out HR1.out HE.out rfl
                rw [DvOk, f1, f2]
                exact ⟨rfl, by repeat (first | exact Below.refl _ _ | apply below_drew1 | apply pw_below_drewN)⟩
              · have hbd : decide ((4294967296 : Int) ≤ RI + y1) = false := decide_eq_false (by rw [HRI.out]; omega)
                have HBN := Aside0.mk hbr
                clear hbr
                go_wp2
                go_round
                case rel => exact ⟨P, R + y1, RI + y1, by first | rfl | (rw [← HQP.out]; done) | (rw [← HQP.out]; go_num), by first | rfl | go_num, ⟨by rw [HRI.out]; push_cast; rfl⟩, ⟨N1.out, N2.out, Nat.lt_of_not_le HBN.out⟩⟩
                case measure => have := HP.out; first | (simp [intOf]; done) | (simp [intOf]; omega)
            · have hqd : decide ((4294967296 : Int) ≤ (Q : Int)) = false := decide_eq_false (by omega)
              obtain ⟨k1, k2, k3⟩ := kn_wr Q R y0 u0 (by omega) HB.out.2.2.1 HI.out.2.2 (by have := HB.out; omega)
              rw [← k2] at k3
              obtain ⟨z, hz⟩ : ∃ z, z = Q * y0 := ⟨_, rfl⟩
              obtain ⟨T, hT⟩ : ∃ T, T = R * 4294967296 + u0 := ⟨_, rfl⟩
              rw [← hz] at k1
              rw [← hT, ← HRI.out] at k3
              have HQL : Aside0 (Q < 4294967296) := ⟨by omega⟩
              clear k2 hRb hy1b hRI0 hRI1
              by_cases hc : T < z
              · have hcd : decide ((T : Int) < (z : Int)) = true := decide_eq_true (by omega)
                have HCD : Aside0 (4294967296 ≤ Q ∨ R * 4294967296 + u0 < Q * y0) := ⟨.inr (by rw [← hz, ← hT]; exact hc)⟩
                clear hz hT
                go_upto_region 25 with (fail)
                have hRb := HI.out.2.2
                have hRI0 : 0 ≤ RI := by rw [HRI.out]; exact Int.natCast_nonneg _
                have hRI1 : RI < 4294967296 := by rw [HRI.out]; omega
                have hy1b := HB.out.2.1
                have hQm : Q < 8589934592 := by have := HQL.out; omega
                clear k1 k3 hcd hqd hc hq
                obtain ⟨P, hP⟩ : ∃ P, Q = P + 1 := ⟨Q - 1, by have := kn_pos HI.out HCD.out; omega⟩
                obtain ⟨n1, n2⟩ := kn_next (q := P) (r := R) (by rw [← hP]; exact HI.out) HY.out HU.out (by have := HB.out; omega) (by rw [← hP]; exact HCD.out)
                have HP := Aside0.mk hP
                have hQ1 : (1 : Int) ≤ Q := by omega
                have hQP : (Q : Int) - 1 = P := by omega
                have HQP := Aside0.mk hQP
                have N1 := Aside0.mk n1
                have N2 := Aside0.mk n2
                clear n1 n2 hP hQP
                have hY1 : (y1 : Int) < 4294967296 := by omega
                skip
                by_cases hbr : 4294967296 ≤ R + y1
                · have hbd : decide ((4294967296 : Int) ≤ RI + y1) = true := decide_eq_true (by rw [HRI.out]; omega)
                  have HBR := Aside0.mk hbr
                  clear hbr
                  go_wp2
                  rw [HQP.out]
                  have HE : Aside0 (KnE r1 u0 y P) := ⟨kn_out N1.out N2.out HY.out HB.out.2.2.1 HU.out (.inr HBR.out)⟩
                  rw [kn_rest_w r1 u0 y P HE.out.2.1 (by have := (kn_rest HE.out).1; have := HYL.out; omega), kn_last_w q1 P HQ1.out.1 HE.out.1]
                  refine bodyPost_ret (results_tmp2 rfl _ _ _) rfl ?_
                  obtain ⟨f1, f2⟩ := kn_all (by omega) HLO.out HB.out.2.2.2.2 HQ1.out HR1.out HE.out rfl
                  rw [DvOk, f1, f2]
                  exact ⟨rfl, by repeat (first | exact Below.refl _ _ | apply below_drew1 | apply pw_below_drewN)⟩
                · have hbd : decide ((4294967296 : Int) ≤ RI + y1) = false := decide_eq_false (by rw [HRI.out]; omega)
                  have HBN := Aside0.mk hbr
                  clear hbr
                  go_wp2
                  go_round
                  case rel => exact ⟨P, R + y1, RI + y1, by first | rfl | (rw [← HQP.out]; done) | (rw [← HQP.out]; go_num), by first | rfl | go_num, ⟨by rw [HRI.out]; push_cast; rfl⟩, ⟨N1.out, N2.out, Nat.lt_of_not_le HBN.out⟩⟩
                  case measure => have := HP.out; first | (simp [intOf]; done) | (simp [intOf]; omega)
              · have hcd : decide ((T : Int) < (z : Int)) = false := decide_eq_false (by omega)
                have HE : Aside0 (KnE r1 u0 y Q) := ⟨kn_out HI.out.1 HI.out.2.1 HY.out HB.out.2.2.1 HU.out (.inl ⟨HQL.out, by rw [← hz, ← hT]; omega⟩)⟩
                clear hz hT
                go_wp2
                rw [kn_rest_w r1 u0 y Q HE.out.2.1 (by have := (kn_rest HE.out).1; have := HYL.out; omega), kn_last_w q1 Q HQ1.out.1 HE.out.1]
                refine bodyPost_ret (results_tmp2 rfl _ _ _) rfl ?_
                obtain ⟨f1, f2⟩ := kn_all (by omega) HLO.out HB.out.2.2.2.2 HQ1.out HR1.out HE.out rfl
                rw [DvOk, f1, f2]
                exact ⟨rfl, by repeat (first | exact Below.refl _ _ | apply below_drew1 | apply pw_below_drewN)⟩
        · have hbd : decide ((4294967296 : Int) ≤ RI + y1) = false := decide_eq_false (by rw [HRI.out]; omega)
          have HBN := Aside0.mk hbr
          clear hbr
          go_wp2
          go_round
          case rel => exact ⟨P, R + y1, RI + y1, by first | rfl | (rw [← HQP.out]; done) | (rw [← HQP.out]; go_num), by first | rfl | go_num, ⟨by rw [HRI.out]; push_cast; rfl⟩, ⟨N1.out, N2.out, Nat.lt_of_not_le HBN.out⟩⟩
          case measure => have := HP.out; first | (simp [intOf]; done) | (simp [intOf]; omega)
      · have hcd : decide ((T : Int) < (z : Int)) = false := decide_eq_false (by omega)
        have HE : Aside0 (KnE hi u1 y Q) := ⟨kn_out HI.out.1 HI.out.2.1 HY.out HB.out.2.2.1 HU.out (.inl ⟨HQL.out, by rw [← hz, ← hT]; omega⟩)⟩
        clear hz hT
        go_upto_region 22 with (fail)
        obtain ⟨r1, hr1⟩ : ∃ r1, r1 = hi * 4294967296 + u1 - Q * y := ⟨_, rfl⟩
        have hrl := (kn_rest HE.out).1
        rw [kn_rest_w hi u1 y Q HE.out.2.1 (by have := HYL.out; omega), ← hr1]
        rw [← hr1] at hrl
        have HR1 := Aside0.mk hr1
        clear hr1
        go_wp2
        obtain ⟨s1, s2, s3⟩ := kn_start_w r1 y1 (by have := HYL.out; omega) (by have := HB.out; omega)
        rw [s3, s2]
        have HQ1 : Aside0 (KnE hi u1 y Q) := HE
        obtain ⟨q1, hq1⟩ : ∃ q1, q1 = Q := ⟨_, rfl⟩
        rw [← hq1] at HQ1 HR1 ⊢
        have K2 := Aside0.mk (kn_first r1 u0 y y1 y0 HY.out (by have := HB.out; omega) (by have := HB.out; omega) (by have := HB.out; omega))
        have HU := Aside0.mk hrl
        obtain ⟨q2, hq2⟩ : ∃ q, q = r1 / y1 := ⟨_, rfl⟩
        obtain ⟨r2, hr2⟩ : ∃ r, r = r1 % y1 := ⟨_, rfl⟩
        rw [← hq2, ← hr2] at K2 ⊢
        clear s1 s2 s3 hrl hq1 hq2 hr2 HE HI
        go_loop [18, 16] (fun q r => ∃ (Q R : Nat) (RI : Int), q = .int .u64 Q ∧ r = .int .u64 RI ∧ Aside0 (RI = (R : Nat)) ∧ Aside0 (KnI r1 u0 y y1 Q R)) (fun q _ => (intOf q).toNat)
        case atStart => exact ⟨_, _, _, rfl, rfl, ⟨rfl⟩, K2⟩
        case round =>
          obtain ⟨Q, R, RI, rfl, rfl, HRI, HI⟩ := hrel
          have hRb := HI.out.2.2
          have hRI0 : 0 ≤ RI := by rw [HRI.out]; exact Int.natCast_nonneg _
          have hRI1 : RI < 4294967296 := by rw [HRI.out]; omega
          have hy1b := HB.out.2.1
          by_cases hq : 4294967296 ≤ Q
          · have hqd : decide ((4294967296 : Int) ≤ (Q : Int)) = true := decide_eq_true (by omega)
            have HCD : Aside0 (4294967296 ≤ Q ∨ R * 4294967296 + u0 < Q * y0) := ⟨.inl hq⟩
            have hQm : Q < 8589934592 := kn_small HI.out HB.out.1 (by have := HU.out; have := HYL.out; omega)
            obtain ⟨P, hP⟩ : ∃ P, Q = P + 1 := ⟨Q - 1, by have := kn_pos HI.out HCD.out; omega⟩
            obtain ⟨n1, n2⟩ := kn_next (q := P) (r := R) (by rw [← hP]; exact HI.out) HY.out HU.out (by have := HB.out; omega) (by rw [← hP]; exact HCD.out)
            have HP := Aside0.mk hP
            have hQ1 : (1 : Int) ≤ Q := by omega
            have hQP : (Q : Int) - 1 = P := by omega
            have HQP := Aside0.mk hQP
            have N1 := Aside0.mk n1
            have N2 := Aside0.mk n2
            clear n1 n2 hP hQP
            have hY1 : (y1 : Int) < 4294967296 := by omega
            skip
            by_cases hbr : 4294967296 ≤ R + y1
            · have hbd : decide ((4294967296 : Int) ≤ RI + y1) = true := decide_eq_true (by rw [HRI.out]; omega)
              have HBR := Aside0.mk hbr
              clear hbr
              go_wp2
              rw [HQP.out]
              have HE : Aside0 (KnE r1 u0 y P) := ⟨kn_out N1.out N2.out HY.out HB.out.2.2.1 HU.out (.inr HBR.out)⟩
              rw [kn_rest_w r1 u0 y P HE.out.2.1 (by have := (kn_rest HE.out).1; have := HYL.out; omega), kn_last_w q1 P HQ1.out.1 HE.out.1]
              refine bodyPost_ret (results_tmp2 rfl _ _ _) rfl ?_
              obtain ⟨f1, f2⟩ := kn_all (by omega) HLO.out HB.out.2.2.2.2 HQ1.out HR1.out HE.out rfl
              rw [DvOk, f1, f2]
              exact ⟨rfl, by repeat (first | exact Below.refl _ _ | apply below_drew1 | apply pw_below_drewN)⟩
            · have hbd : decide ((4294967296 : Int) ≤ RI + y1) = false := decide_eq_false (by rw [HRI.out]; omega)
              have HBN := Aside0.mk hbr
              clear hbr
              go_wp2
              go_round
              case rel => exact ⟨P, R + y1, RI + y1, by first | rfl | (rw [← HQP.out]; done) | (rw [← HQP.out]; go_num), by first | rfl | go_num, ⟨by rw [HRI.out]; push_cast; rfl⟩, ⟨N1.out, N2.out, Nat.lt_of_not_le HBN.out⟩⟩
              case measure => have := HP.out; first | (simp [intOf]; done) | (simp [intOf]; omega)
          · have hqd : decide ((4294967296 : Int) ≤ (Q : Int)) = false := decide_eq_false (by omega)
            obtain ⟨k1, k2, k3⟩ := kn_wr Q R y0 u0 (by omega) HB.out.2.2.1 HI.out.2.2 (by have := HB.out; omega)
            rw [← k2] at k3
            obtain ⟨z, hz⟩ : ∃ z, z = Q * y0 := ⟨_, rfl⟩
            obtain ⟨T, hT⟩ : ∃ T, T = R * 4294967296 + u0 := ⟨_, rfl⟩
            rw [← hz] at k1
            rw [← hT, ← HRI.out] at k3
            have HQL : Aside0 (Q < 4294967296) := ⟨by omega⟩
            clear k2 hRb hy1b hRI0 hRI1
            by_cases hc : T < z
            · have hcd : decide ((T : Int) < (z : Int)) = true := decide_eq_true (by omega)
              have HCD : Aside0 (4294967296 ≤ Q ∨ R * 4294967296 + u0 < Q * y0) := ⟨.inr (by rw [← hz, ← hT]; exact hc)⟩
              clear hz hT
              go_upto_region 25 with (fail)
              have hRb := HI.out.2.2
              have hRI0 : 0 ≤ RI := by rw [HRI.out]; exact Int.natCast_nonneg _
              have hRI1 : RI < 4294967296 := by rw [HRI.out]; omega
              have hy1b := HB.out.2.1
              have hQm : Q < 8589934592 := by have := HQL.out; omega
              clear k1 k3 hcd hqd hc hq
              obtain ⟨P, hP⟩ : ∃ P, Q = P + 1 := ⟨Q - 1, by have := kn_pos HI.out HCD.out; omega⟩
              obtain ⟨n1, n2⟩ := kn_next (q := P) (r := R) (by rw [← hP]; exact HI.out) HY.out HU.out (by have := HB.out; omega) (by rw [← hP]; exact HCD.out)
              have HP := Aside0.mk hP
              have hQ1 : (1 : Int) ≤ Q := by omega
              have hQP : (Q : Int) - 1 = P := by omega
              have HQP := Aside0.mk hQP
              have N1 := Aside0.mk n1
              have N2 := Aside0.mk n2
              clear n1 n2 hP hQP
              have hY1 : (y1 : Int) < 4294967296 := by omega
              skip
              by_cases hbr : 4294967296 ≤ R + y1
              · have hbd : decide ((4294967296 : Int) ≤ RI + y1) = true := decide_eq_true (by rw [HRI.out]; omega)
                have HBR := Aside0.mk hbr
                clear hbr
                go_wp2
                rw [HQP.out]
                have HE : Aside0 (KnE r1 u0 y P) := ⟨kn_out N1.out N2.out HY.out HB.out.2.2.1 HU.out (.inr HBR.out)⟩
                rw [kn_rest_w r1 u0 y P HE.out.2.1 (by have := (kn_rest HE.out).1; have := HYL.out; omega), kn_last_w q1 P HQ1.out.1 HE.out.1]
                refine bodyPost_ret (results_tmp2 rfl _ _ _) rfl ?_
                obtain ⟨f1, f2⟩ := kn_all (by omega) HLO.out HB.out.2.2.2.2 HQ1.out HR1.out HE.out rfl
                rw [DvOk, f1, f2]
                exact ⟨rfl, by repeat (first | exact Below.refl _ _ | apply below_drew1 | apply pw_below_drewN)⟩
              · have hbd : decide ((4294967296 : Int) ≤ RI + y1) = false := decide_eq_false (by rw [HRI.out]; omega)
                have HBN := Aside0.mk hbr
                clear hbr
                go_wp2
                go_round
                case rel => exact ⟨P, R + y1, RI + y1, by first | rfl | (rw [← HQP.out]; done) | (rw [← HQP.out]; go_num), by first | rfl | go_num, ⟨by rw [HRI.out]; push_cast; rfl⟩, ⟨N1.out, N2.out, Nat.lt_of_not_le HBN.out⟩⟩
                case measure => have := HP.out; first | (simp [intOf]; done) | (simp [intOf]; omega)
            · have hcd : decide ((T : Int) < (z : Int)) = false := decide_eq_false (by omega)
              have HE : Aside0 (KnE r1 u0 y Q) := ⟨kn_out HI.out.1 HI.out.2.1 HY.out HB.out.2.2.1 HU.out (.inl ⟨HQL.out, by rw [← hz, ← hT]; omega⟩)⟩
              clear hz hT
              go_wp2
              rw [kn_rest_w r1 u0 y Q HE.out.2.1 (by have := (kn_rest HE.out).1; have := HYL.out; omega), kn_last_w q1 Q HQ1.out.1 HE.out.1]
              refine bodyPost_ret (results_tmp2 rfl _ _ _) rfl ?_
              obtain ⟨f1, f2⟩ := kn_all (by omega) HLO.out HB.out.2.2.2.2 HQ1.out HR1.out HE.out rfl
              rw [DvOk, f1, f2]
              exact ⟨rfl, by repeat (first | exact Below.refl _ _ | apply below_drew1 | apply pw_below_drewN)⟩

set_option maxHeartbeats 1000000 in
theorem divB_big (hi lo y : Nat) (h63 : 9223372036854775808 ≤ y) (hy : y < 18446744073709551616) (hh : hi < y) (hlo : lo < 18446744073709551616) (w : World) :
    Calls Tryz.prog 257 #[.int .u64 hi, .int .u64 lo, .int .u64 y] w (DvOk hi lo y w) := by
  have h : ∀ W, Calls Tryz.prog 280 #[.int .u64 hi, .int .u64 lo, .int .u64 y] W (DvOk hi lo y W) := by
    intro W
    rcases Nat.eq_zero_or_pos hi with h0 | h0
    · subst h0
      have := div64_zero lo y (by omega) hy hlo W
      unfold DvOk
      rw [Nat.zero_mul, Nat.zero_add]
      exact this
    · exact div64_big hi lo y h63 hy hh h0 hlo W
  have hq : (hi * 18446744073709551616 + lo) / y < 18446744073709551616 := Nat.div_lt_of_lt_mul (by
    have : (hi + 1) * 18446744073709551616 ≤ y * 18446744073709551616 := Nat.mul_le_mul_right _ hh
    rw [Nat.succ_mul] at this
    omega)
  have hr := Nat.mod_lt (hi * 18446744073709551616 + lo) (show 0 < y by omega)
  unfold DvOk at *
  generalize (hi * 18446744073709551616 + lo) / y = q at *
  generalize (hi * 18446744073709551616 + lo) % y = r at *
  have q1 : IntKind.u64.wrap (q : Int) = (q : Int) := wu64 (by omega) (by omega)
  have q2 : IntKind.u64.wrap (r : Int) = (r : Int) := wu64 (by omega) (by omega)
  clear h63 hy hh hlo hq hr
  go_enter Tryz.func257, Tryz.ntmps257
  go_wp2_with (first | (go_at_call 280; refine (h _).mono ?_; rintro e w' ⟨rfl, hb⟩))
  refine bodyPost_ret (results_tmp2 rfl _ _ _) rfl ?_
  exact ⟨by first | rfl | exact word_eqd q1 q2, hb⟩

/-- The reciprocal of a word, as reciprocalWord has it. -/
def RecOf (y m : Nat) : Prop := m < 18446744073709551616 ∧ ∀ s, s < 64 → 9223372036854775808 ≤ y * 2 ^ s → y * 2 ^ s < 18446744073709551616 → ∃ k, y * 2 ^ s * (m + 18446744073709551616) + k = 18446744073709551616 * 18446744073709551616 ∧ k ≤ y * 2 ^ s

theorem shift_uniq {y s t : Nat} (hy : 0 < y) (h1 : 9223372036854775808 ≤ y * 2 ^ s) (h2 : y * 2 ^ s < 18446744073709551616) (k1 : 9223372036854775808 ≤ y * 2 ^ t) (k2 : y * 2 ^ t < 18446744073709551616) : s = t := by
  rcases Nat.lt_trichotomy s t with h | h | h
  · have : y * 2 ^ (s + 1) ≤ y * 2 ^ t := Nat.mul_le_mul_left _ (Nat.pow_le_pow_right (by omega) h)
    rw [Nat.pow_succ, ← Nat.mul_assoc] at this
    omega
  · exact h
  · have : y * 2 ^ (t + 1) ≤ y * 2 ^ s := Nat.mul_le_mul_left _ (Nat.pow_le_pow_right (by omega) h)
    rw [Nat.pow_succ, ← Nat.mul_assoc] at this
    omega

set_option maxHeartbeats 1000000 in
set_option maxRecDepth 100000 in
theorem rec_any (y : Nat) (hy0 : 0 < y) (hy : y < 18446744073709551616) (w : World) :
    Calls Tryz.prog 258 #[.int .u64 y] w fun e w' => ∃ m : Nat, e = .returned (.int .u64 m) ∧ RecOf y m ∧ Below w.heap.size w w' := by
  obtain ⟨s, hs, hs1, hs2, hn⟩ := nlz_any y hy0 hy
  obtain ⟨d, hd⟩ : ∃ d, d = y * 2 ^ s := ⟨_, rfl⟩
  rw [← hd] at hs1 hs2
  have HD := Lib.hid (fun W => divB_big (18446744073709551615 - d) 18446744073709551615 d hs1 hs2 (by omega) (by omega) W)
  have HN := Lib.hid hn
  have hrec := rec_is 18446744073709551616 d _ (by omega) hs2 (by omega) rfl
  have E1 : Aside0 (IntKind.u64.wrap ((y : Int) * 2 ^ s) = (d : Int)) := ⟨by
    rw [show (y : Int) * 2 ^ s = ((y * 2 ^ s : Nat) : Int) by push_cast; rfl, ← hd]
    exact wu64 (by omega) (by omega)⟩
  have HR : Aside0 (RecOf y (((18446744073709551615 - d) * 18446744073709551616 + 18446744073709551615) / d)) := ⟨by
    obtain ⟨r1, k, r2, r3, r4⟩ := hrec
    rw [show 18446744073709551616 - 1 - d = 18446744073709551615 - d by omega, show 18446744073709551616 - 1 = 18446744073709551615 from rfl] at r1 r2
    refine ⟨r1, fun t ht h1 h2 => ?_⟩
    obtain rfl := shift_uniq hy0 h1 h2 (by rw [← hd]; exact hs1) (by rw [← hd]; exact hs2)
    rw [← hd]
    exact ⟨k, r2, r4⟩⟩
  have hsi : (s : Int) < 64 := by omega
  obtain ⟨c, hc⟩ : ∃ c, c = 18446744073709551615 - d := ⟨_, rfl⟩
  rw [← hc] at HD HR
  have HC := Aside0.mk (show (c : Int) = 18446744073709551615 - d by omega)
  have HX : Aside0 (bits .xor .u64 IntKind.u64.max (d : Int) = (c : Int)) := ⟨by
    rw [show IntKind.u64.max = ((18446744073709551615 : Nat) : Int) from rfl, bits_xor_u64_nat _ _ (by omega) hs2]
    have h := Lib.xor_ones64 d hs2
    rw [hc, ← h]⟩
  clear hn hrec hd hs1 hy0 hy hs hc hs2
  go_enter Tryz.func258, Tryz.ntmps258
  go_wp2_with (first | (go_at_call 160; refine (HN.out _).mono ?_; rintro e w' ⟨rfl, rfl⟩))
  rw [E1.out, HX.out]
  refine (HD.out _).mono ?_
  rintro e w1 ⟨rfl, hb⟩
  obtain ⟨m, hm⟩ : ∃ m, m = (c * 18446744073709551616 + 18446744073709551615) / d := ⟨_, rfl⟩
  obtain ⟨m2, hm2⟩ : ∃ m, m = (c * 18446744073709551616 + 18446744073709551615) % d := ⟨_, rfl⟩
  rw [← hm] at HR ⊢
  rw [← hm2]
  clear hm hm2 HD HC
  have hml : (m : Int) < 18446744073709551616 := by have := HR.out.1; omega
  go_wp2_with fail
  go_ret
  exact ⟨m, rfl, HR.out, hb⟩
end Go.Proofs.YtgpoplfgngiilaaGreatDoor

namespace Go.Proofs.YtgpoplfgngiilaaGreatDoor
open Go.RowKit Go.Proofs.YtgpoplfgngiilaaGreatDoorW.PrintWords

theorem addc64 (x y c : Nat) (hc : c ≤ 1) (w : World) :
    (callFunc 267 #[.int .u64 x, .int .u64 y, .int .u64 c]).run Tryz.prog w = .ok (.value (.tuple #[.int .u64 (((x + y + c) % 18446744073709551616 : Nat) : Int), .int .u64 (((x + y + c) / 18446744073709551616 : Nat) : Int)])) w := by
  rw [run_callFunc_extern (P := Tryz.prog) Tryz.func267 (by kernel_rfl) (by kernel_rfl) (by kernel_rfl) (e := add64Entry) (by kernel_rfl)]
  rw [run_add64 (P := Tryz.prog) x y c (by omega) (by omega) (by omega) (by omega) w]
  simp only [Result.andThen]
  rfl
theorem subb64 (x y b : Nat) (hb : b ≤ 1) (w : World) :
    (callFunc 286 #[.int .u64 x, .int .u64 y, .int .u64 b]).run Tryz.prog w = .ok (.value (.tuple #[.int .u64 (((x + 18446744073709551616 - y - b) % 18446744073709551616 : Nat) : Int), .int .u64 ((if x < y + b then 1 else 0 : Nat) : Int)])) w := by
  rw [run_callFunc_extern (P := Tryz.prog) Tryz.func286 (by kernel_rfl) (by kernel_rfl) (by kernel_rfl) (e := sub64Entry) (by kernel_rfl)]
  rw [run_sub64 (P := Tryz.prog) x y b hb w]
  rfl

set_option maxHeartbeats 1000000 in
theorem addc_any (x y c : Nat) (hc : c ≤ 1) (w : World) :
    Calls Tryz.prog 240 #[.int .u64 x, .int .u64 y, .int .u64 c] w fun e w' => e = .returned (.tuple #[.int .u64 (((x + y + c) % 18446744073709551616 : Nat) : Int), .int .u64 (((x + y + c) / 18446744073709551616 : Nat) : Int)]) ∧ w = w' := by
  have h := fun W => addc64 x y c hc W
  clear hc
  obtain ⟨s, hs⟩ : ∃ s, s = (x + y + c) % 18446744073709551616 := ⟨_, rfl⟩
  obtain ⟨d, hd⟩ : ∃ d, d = (x + y + c) / 18446744073709551616 := ⟨_, rfl⟩
  rw [← hs, ← hd] at h ⊢
  clear hs hd
  go_enter Tryz.func240, Tryz.ntmps240
  go_wp2_with fail
  refine bodyPost_ret (results_tmp2 rfl _ _ _) rfl ?_
  exact ⟨rfl, rfl⟩
set_option maxHeartbeats 1000000 in
theorem subb_any (x y b : Nat) (hb : b ≤ 1) (w : World) :
    Calls Tryz.prog 272 #[.int .u64 x, .int .u64 y, .int .u64 b] w fun e w' => e = .returned (.tuple #[.int .u64 (((x + 18446744073709551616 - y - b) % 18446744073709551616 : Nat) : Int), .int .u64 ((if x < y + b then 1 else 0 : Nat) : Int)]) ∧ w = w' := by
  have h := fun W => subb64 x y b hb W
  clear hb
  obtain ⟨s, hs⟩ : ∃ s, s = (x + 18446744073709551616 - y - b) % 18446744073709551616 := ⟨_, rfl⟩
  obtain ⟨d, hd⟩ : ∃ d : Nat, d = (if x < y + b then 1 else 0 : Nat) := ⟨_, rfl⟩
  rw [← hs, ← hd] at h ⊢
  clear hs hd
  go_enter Tryz.func272, Tryz.ntmps272
  go_wp2_with fail
  refine bodyPost_ret (results_tmp2 rfl _ _ _) rfl ?_
  exact ⟨rfl, rfl⟩
end Go.Proofs.YtgpoplfgngiilaaGreatDoor
