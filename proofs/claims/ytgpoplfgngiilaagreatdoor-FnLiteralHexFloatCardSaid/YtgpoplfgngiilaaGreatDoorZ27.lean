/- The law FnLiteralHexFloat: whatever the input, true. (wip/gen/hl.py wrote it.) -/
import Derived.Test.YtgpoplfgngiilaaGreatDoorZ20
import Derived.Test.YtgpoplfgngiilaaGreatDoorZ25
import Derived.Test.YtgpoplfgngiilaaGreatDoorZ26
set_option linter.unusedVariables false
set_option linter.unusedSimpArgs false
namespace Go.Proofs.YtgpoplfgngiilaaGreatDoor
open Go.RowKit Go.Proofs.YtgpoplfgngiilaaGreatDoorW.PrintWords PAll Pl Dv

/-- spec.Of of one word. -/
theorem of_one (n : Nat) (hn : n < 18446744073709551616) (b c : Nat) (hc1 : 1 ≤ c) (w : World) (hC : w.cell? ⟨b, 0, none⟩ = some (.int .u64 (n : Int))) :
    Calls Tryz.prog 15 #[.slice (some ⟨b, 0, none⟩) 1 c] w fun e w' => ∃ r, e = .returned r ∧ Nd w' r n ∧ Below w.heap.size w w' := by
  have ho := of_f [(n : Int)] (fun x hx => by
    obtain rfl : x = n := by simpa using hx
    omega) (by simp)
  have hv : (val ((18446744073709551616 : Nat) : Int) [(n : Int)]).toNat = n := by simp [val]
  rw [hv] at ho
  obtain ⟨k, hk⟩ := ho.rounds
  refine (spec_Of.calls k (some ⟨b, 0, none⟩) c [(n : Int)] _ w (C_one hC) hc1 hk).mono ?_
  rintro e w' ⟨r, rfl, hr, hb⟩
  exact ⟨r, rfl, Nd.of_V hr, hb⟩

theorem Nd_V {w : World} {v : Value} {n b : Nat} (h : Nd w v n) : Kd.V (Kd.int .i64) 3 w b (fun _ => True) v (figs 65536 n) := by
  obtain ⟨A, c, rfl, hl, hC⟩ := h
  exact ⟨A, c, rfl, hl, fun W' hW => C_keep0 hC (fun hn ad ha => hW ad.block trivial (C_block hC hn ad ha))⟩

theorem inBase_nd {n kk : Nat} {up : Bool} {u : ByteArray} {v : Value} {W : World} (h : spec_InBase.f kk (figs 65536 n) 16 up = some u) (hv : Nd W v n) :
    Calls Tryz.prog 9 #[v, .int .i64 16, .bool up] W fun e w' => e = .returned (.string u) ∧ Below W.heap.size W w' := by
  have hV := Nd_V (b := W.heap.size) hv
  obtain ⟨A, c, rfl, hl, hC⟩ := hv
  exact spec_InBase.calls kk (fun _ => True) A c (figs 65536 n) 16 up u W hV h

section
variable {P : Program} {ops : Array Oper} {Q : Exit → Act → World → Prop} {md : Region.Mode} {S S' : World → Prop}
/-- The condition may be turned to a stronger one. -/
theorem wpAnyH_turn0 (hS : ∀ w, S' w → S w) : ∀ (fuel : Nat) (listed : Array Bool) (a : Act) (w : World), wpAnyH P md ops Q S' fuel listed a w → wpAnyH P md ops Q S fuel listed a w
  | 0, _, _, _, h => h
  | fuel + 1, _, _, _, h => ⟨h.1, fun i hi => wpOp_mono (fun a' w' h' => ⟨hS _ h'.1, wpAnyH_turn0 hS fuel _ a' w' h'.2⟩) (h.2 i hi)⟩
theorem wpAnyH_turn {fuel : Nat} {listed : Array Bool} {a : Act} {w : World} (hS : ∀ w, S' w → S w) (h : wpAnyH P md ops Q S' fuel listed a w) (hx : S' w) : wpAnyH P md ops Q S fuel listed a w := wpAnyH_turn0 hS fuel listed a w h
end

/-- The two tables of texts. -/
def arrA : Array Value := #[.string ⟨#[48, 120]⟩, .string ⟨#[48, 88]⟩]
def arrB : Array Value := #[.string ⟨#[112]⟩, .string ⟨#[80]⟩]

/-- What holds while the law's text is made: the number stays, the tables of L stay. -/
def HxS (w : World) (n : Nat) (r : Value) (L : List (Nat × Array Value)) (W : World) : Prop :=
  Below w.heap.size w W ∧ Nd W r n ∧ ∀ bc ∈ L, w.heap.size ≤ bc.1 ∧ W.heap[bc.1]? = some (.cells bc.2 9 (0, 0))
section
variable {w W W1 : World} {n : Nat} {r : Value} {L : List (Nat × Array Value)}
theorem HxS.nd (h : HxS w n r L W) : Nd W r n := h.2.1
theorem HxS.nil (h : HxS w n r L W) : HxS w n r [] W := ⟨h.1, h.2.1, fun _ hm => by cases hm⟩
theorem HxS.tail {x : Nat × Array Value} (h : HxS w n r (x :: L) W) : HxS w n r L W := ⟨h.1, h.2.1, fun bc hm => h.2.2 bc (List.Mem.tail _ hm)⟩
theorem HxS.next (h : HxS w n r L W) (hb : Below W.heap.size W W1) : HxS w n r L W1 :=
  ⟨below_step h.1 hb, h.2.1.below hb, fun bc hm => ⟨(h.2.2 bc hm).1, blk_below (h.2.2 bc hm).2 hb⟩⟩
theorem HxS.cons (h : HxS w n r L W) (arr : Array Value) : HxS w n r ((W.heap.size, arr) :: L) (W.alloc (.cells arr 9)) := by
  have hb := below_alloc (Below.refl W.heap.size W) (.cells arr 9)
  have h1 := h.next hb
  refine ⟨h1.1, h1.2.1, fun bc hm => ?_⟩
  cases hm with
  | head => exact ⟨h.1.size, heap_alloc_new W _⟩
  | tail _ hm => exact h1.2.2 bc hm
theorem HxS.cell {b i : Nat} {arr : Array Value} {v : Value} (h : HxS w n r L W) (hm : (b, arr) ∈ L) (hi : arr[i]? = some v) : W.cell? ⟨b, i, none⟩ = some v := by
  rw [blk_cell (h.2.2 _ hm).2 i]; exact hi
end

theorem tmod_bound (ev : Int) : -1000 ≤ ev.tmod 1001 ∧ ev.tmod 1001 ≤ 1000 := by
  have h1 := Int.tmod_lt_of_pos ev (show (0 : Int) < 1001 by decide)
  have h2 := Int.lt_tmod_of_pos ev (show (0 : Int) < 1001 by decide)
  omega
theorem preOf (i : Nat) (hi : i < 2) : ∃ pre, arrA[i]? = some (.string pre) ∧ pre.size = 2 ∧ bt pre 0 = 48 ∧ (bt pre 1 = 120 ∨ bt pre 1 = 88) := by
  rcases (by omega : i = 0 ∨ i = 1) with rfl | rfl
  · exact ⟨⟨#[48, 120]⟩, rfl, rfl, rfl, .inl rfl⟩
  · exact ⟨⟨#[48, 88]⟩, rfl, rfl, rfl, .inr rfl⟩
theorem letOf (i : Nat) (hi : i < 2) : ∃ l, arrB[i]? = some (.string l) ∧ l.size = 1 ∧ (bt l 0 = 112 ∨ bt l 0 = 80) := by
  rcases (by omega : i = 0 ∨ i = 1) with rfl | rfl
  · exact ⟨⟨#[112]⟩, rfl, rfl, .inl rfl⟩
  · exact ⟨⟨#[80]⟩, rfl, rfl, .inr rfl⟩
theorem hexFigs (n : Nat) (up : Bool) (hn : n < 18446744073709551616) : ∃ (k : Nat) (u : ByteArray), spec_InBase.f k (figs 65536 n) 16 up = some u ∧ 0 < u.size ∧ u.size ≤ 65 ∧ (∀ j : Nat, j < u.size → bt u j ≠ 95 ∧ isFig 16 (bt u j)) ∧ pv 16 u u.size = n := by
  obtain ⟨u, hu, hF, hlt, hsz, hle⟩ := inBase_f n 16 64 up hn (by decide) (by decide) (by decide)
  obtain ⟨k, hk⟩ := hu.rounds
  obtain ⟨h1, h2⟩ := figs16 hF hlt
  exact ⟨k, u, hk, by omega, hle, h1, h2⟩

theorem len_gen {B : Nat} (hB : 2 ≤ B) (X k c : Nat) (hX : X < B ^ c) : (figs B (X * 2 ^ k)).length ≤ c + k := by
  refine figs_length_le hB (c + k) _ ?_
  rw [Nat.pow_add]
  exact Nat.mul_lt_mul_of_lt_of_le hX (Nat.pow_le_pow_left hB k) (Nat.pow_pos (by omega))
theorem pow_c (n : Nat) (h : n < 18446744073709551616) : n < 65536 ^ 4 := h

/-- PowerOf(16, -q). -/
theorem pow16 (q : Nat) (hq : q < 20) (W : World) : Calls Tryz.prog 21 #[.int .i64 16, .int .i64 (-(q : Int))] W (RtOk 1 (16 ^ q) W) := by
  rcases Nat.eq_zero_or_pos q with rfl | h
  · exact powerOf_pos 16 0 (by decide) (by decide) (by decide) W
  · exact powerOf_neg 16 q (by decide) (by decide) h (by omega) W
/-- PowerOf(2, x). -/
theorem powX (x : Int) (h0 : -1000 ≤ x) (h1 : x ≤ 1000) (W : World) : Calls Tryz.prog 21 #[.int .i64 2, .int .i64 x] W (RtOk (2 ^ x.toNat) (2 ^ (-x).toNat) W) := by
  rcases Int.lt_or_le x 0 with h | h
  · obtain ⟨k, rfl⟩ : ∃ k : Nat, x = -(k : Int) := ⟨(-x).toNat, by omega⟩
    rw [show (-(k : Int)).toNat = 0 by omega, show (-(-(k : Int))).toNat = k by omega, Nat.pow_zero]
    exact powerOf_neg 2 k (by decide) (by decide) (by omega) (by omega) W
  · obtain ⟨k, rfl⟩ : ∃ k : Nat, x = (k : Int) := ⟨x.toNat, by omega⟩
    rw [show ((k : Int)).toNat = k by omega, show (-(k : Int)).toNat = 0 by omega, Nat.pow_zero]
    exact powerOf_pos 2 k (by decide) (by decide) (by omega) W

theorem hD_pos {V : Nat} {E : Int} : 0 < hD V E := Nat.div_pos (Nat.gcd_le_right _ rDen_pos) (Nat.gcd_pos_of_pos_right _ rDen_pos)
theorem h_cop {V : Nat} {E : Int} : Nat.gcd (hN V E) (hD V E) = 1 := by
  rw [hN, hD, Nat.gcd_div (Nat.gcd_dvd_left _ _) (Nat.gcd_dvd_right _ _)]
  exact Nat.div_self (Nat.gcd_pos_of_pos_right _ rDen_pos)
theorem hN_len {B c V : Nat} {E : Int} (hB : 2 ≤ B) (hV : V < B ^ c) (hE : -1400 ≤ E ∧ E ≤ 1000) : (figs B (hN V E)).length ≤ c + 1400 :=
  Nat.le_trans (figs_mono hB (Nat.div_le_self _ _)) (Nat.le_trans (len_gen hB V E.toNat c hV) (by omega))
theorem hD_len {B V : Nat} {E : Int} (hB : 2 ≤ B) (hE : -1400 ≤ E ∧ E ≤ 1000) : (figs B (hD V E)).length ≤ 1 + 1400 := by
  refine Nat.le_trans (figs_mono hB (Nat.div_le_self _ _)) ?_
  have h := len_gen hB 1 (-E).toNat 1 (by rw [Nat.pow_one]; omega)
  rw [Nat.one_mul] at h
  exact Nat.le_trans h (by omega)

/-- The reference's fraction is the literal's. -/
theorem frac_eq (m q : Nat) (x : Int) {n3 d3 : Nat} (hn3 : n3 = 1 * 2 ^ x.toNat / Nat.gcd (1 * 2 ^ x.toNat) (16 ^ q * 2 ^ (-x).toNat)) (hd3 : d3 = 16 ^ q * 2 ^ (-x).toNat / Nat.gcd (1 * 2 ^ x.toNat) (16 ^ q * 2 ^ (-x).toNat)) :
    m * n3 / Nat.gcd (m * n3) (1 * d3) = hN m (x - 4 * q) ∧ 1 * d3 / Nat.gcd (m * n3) (1 * d3) = hD m (x - 4 * q) := by
  have hdp : 0 < 16 ^ q * 2 ^ (-x).toNat := Nat.mul_pos (Nat.pow_pos (by decide)) (Nat.pow_pos (by decide))
  have hg := Nat.gcd_pos_of_pos_right (1 * 2 ^ x.toNat) hdp
  have h3 : 0 < d3 := by rw [hd3]; exact Nat.div_pos (Nat.gcd_le_right _ hdp) hg
  have e1 : Nat.gcd (1 * 2 ^ x.toNat) (16 ^ q * 2 ^ (-x).toNat) * n3 = 2 ^ x.toNat := by
    rw [hn3, Nat.mul_div_cancel' (Nat.gcd_dvd_left _ _), Nat.one_mul]
  have e2 : Nat.gcd (1 * 2 ^ x.toNat) (16 ^ q * 2 ^ (-x).toNat) * d3 = 16 ^ q * 2 ^ (-x).toNat := by
    rw [hd3, Nat.mul_div_cancel' (Nat.gcd_dvd_right _ _)]
  have h := Lw.same_frac m q (x - 4 * q).toNat x.toNat (-(x - 4 * q)).toNat (-x).toNat n3 d3 _ (by omega) e1 e2
  have hl := Lw.lowest (N := m * n3) (D := d3) (N' := rNum m (x - 4 * q)) (D' := rDen (x - 4 * q)) h3 rDen_pos (by rw [rNum, rDen]; exact h.symm)
  rw [Nat.one_mul]
  exact hl

theorem len2 (a : Nat) : (figs 65536 (2 ^ a)).length ≤ a + 1 := figs_pow 2 a (by decide)
theorem len16 (q d : Nat) (hq : q < 20) : (figs 65536 (16 ^ q * 2 ^ d)).length ≤ 21 + d := by
  refine Nat.le_trans (figs_shl (16 ^ q) d 21 ?_) (Nat.le_refl _)
  exact Nat.le_trans (figs_pow 16 q (by decide)) (by omega)
/-- PowerOf(16, -q) times PowerOf(2, x). -/
theorem times1 (q : Nat) (x : Int) (hq : q < 20) (h0 : -1000 ≤ x) (h1 : x ≤ 1000) (u v : Value) (w : World) (hu : Rt w u 1 (16 ^ q)) (hv : Rt w v (2 ^ x.toNat) (2 ^ (-x).toNat)) :
    Calls Tryz.prog 19 #[u, v] w (RtOk (1 * 2 ^ x.toNat / Nat.gcd (1 * 2 ^ x.toNat) (16 ^ q * 2 ^ (-x).toNat)) (16 ^ q * 2 ^ (-x).toNat / Nat.gcd (1 * 2 ^ x.toNat) (16 ^ q * 2 ^ (-x).toNat)) w) := by
  have a1 := len2 x.toNat
  have a2 := len2 (-x).toNat
  have a3 := len16 q (-x).toNat hq
  have a4 : (figs 65536 (16 ^ q)).length ≤ q + 1 := figs_pow 16 q (by decide)
  exact times_nd 1 (16 ^ q) (2 ^ x.toNat) (2 ^ (-x).toNat) (Nat.mul_pos (Nat.pow_pos (by decide)) (Nat.pow_pos (by decide))) u v w hu hv
    (by rw [figs_one (by decide) (by decide) (by decide)]; decide) (by omega) (by omega) (by omega) (by rw [Nat.one_mul]; omega) (by omega)
/-- The whole number times that. -/
theorem times2 (n q : Nat) (x E : Int) (hn : n < 18446744073709551616) (hq : q < 20) (h0 : -1000 ≤ x) (h1 : x ≤ 1000) (hE : E = x - 4 * (q : Int)) (u v : Value) (w : World) (hu : Rt w u n 1)
    (hv : Rt w v (1 * 2 ^ x.toNat / Nat.gcd (1 * 2 ^ x.toNat) (16 ^ q * 2 ^ (-x).toNat)) (16 ^ q * 2 ^ (-x).toNat / Nat.gcd (1 * 2 ^ x.toNat) (16 ^ q * 2 ^ (-x).toNat))) :
    Calls Tryz.prog 19 #[u, v] w (RtOk (hN n E) (hD n E) w) := by
  obtain ⟨n3, hn3⟩ : ∃ a, a = 1 * 2 ^ x.toNat / Nat.gcd (1 * 2 ^ x.toNat) (16 ^ q * 2 ^ (-x).toNat) := ⟨_, rfl⟩
  obtain ⟨d3, hd3⟩ : ∃ a, a = 16 ^ q * 2 ^ (-x).toNat / Nat.gcd (1 * 2 ^ x.toNat) (16 ^ q * 2 ^ (-x).toNat) := ⟨_, rfl⟩
  have hf := frac_eq n q x hn3 hd3
  rw [← hE] at hf
  rw [← hn3, ← hd3] at hv
  have hdp : 0 < 16 ^ q * 2 ^ (-x).toNat := Nat.mul_pos (Nat.pow_pos (by decide)) (Nat.pow_pos (by decide))
  have h3 : 0 < d3 := by rw [hd3]; exact Nat.div_pos (Nat.gcd_le_right _ hdp) (Nat.gcd_pos_of_pos_right _ hdp)
  have b1 : n3 ≤ 2 ^ x.toNat := by rw [hn3, Nat.one_mul]; exact Nat.div_le_self _ _
  have b2 : d3 ≤ 16 ^ q * 2 ^ (-x).toNat := by rw [hd3]; exact Nat.div_le_self _ _
  have a1 := Nat.le_trans (figs_mono (B := 65536) (by decide) b1) (len2 x.toNat)
  have a2 := Nat.le_trans (figs_mono (B := 65536) (by decide) b2) (len16 q (-x).toNat hq)
  have a3 : (figs 65536 n).length ≤ 4 := figs_length_le (by decide) 4 n (pow_c n hn)
  have a4 := Nat.le_trans (figs_mono (B := 65536) (by decide) (Nat.mul_le_mul_left n b1)) (len_gen (by decide) n x.toNat 4 (pow_c n hn))
  rw [← hf.1, ← hf.2]
  exact times_nd n 1 n3 d3 (by rw [Nat.one_mul]; exact h3) u v w hu hv (by omega) (by omega) (by rw [figs_one (by decide) (by decide) (by decide)]; decide) (by omega) (by omega) (by rw [Nat.one_mul]; omega)

set_option maxHeartbeats 8000000 in
set_option maxRecDepth 100000 in
theorem law_hex (n kv fv : Nat) (ev : Int) (w : World) (hn : n < 18446744073709551616) (hk : kv < 256) (he0 : -32768 ≤ ev) (he1 : ev < 32768) (hf : fv < 256) (pa : Addr) (hev : Eof w pa) :
    Calls Tryz.prog 5 #[.int .u64 n, .int .u8 kv, .int .i16 ev, .int .u8 fv] w fun e w' => e = .returned (.bool true) ∧ Below w.heap.size w w' := by
  have HEV := Aside0.mk hev
  have HN := Aside0.mk hn
  have HO := Lib.hid (fun W => of_one n hn w.heap.size 1 (Nat.le_refl _) W)
  obtain ⟨x, hx⟩ : ∃ x, x = wrap64 (ev.tmod 1001) := ⟨_, rfl⟩
  have hxb : -1000 ≤ x ∧ x ≤ 1000 := by
    have h1 := tmod_bound ev
    rw [hx, w64 (by omega) (by omega)]; exact h1
  obtain ⟨q, hq⟩ : ∃ q, q = kv % 20 := ⟨_, rfl⟩
  have hq20 : q < 20 := by omega
  have hqi : (kv : Int) % 20 = (q : Int) := by omega
  obtain ⟨i1, hi1⟩ : ∃ i, i = fv % 2 := ⟨_, rfl⟩
  obtain ⟨i2, hi2⟩ : ∃ i, i = fv / 2 % 2 := ⟨_, rfl⟩
  obtain ⟨up, hup⟩ : ∃ b : Bool, b = decide ((fv : Int).tmod 4 < 2) := ⟨_, rfl⟩
  obtain ⟨plus, hplus⟩ : ∃ b : Bool, b = decide (127 < (fv : Int)) := ⟨_, rfl⟩
  obtain ⟨pre, hpre, hpz, hp0, hp1⟩ := preOf i1 (by omega)
  obtain ⟨lt, hlet, hlz, hlc⟩ := letOf i2 (by omega)
  obtain ⟨kk, u0, hU, huz, huz2, hfig, hpv⟩ := hexFigs n up hn
  obtain ⟨sg, t, hX, hE⟩ := exponent_f lt hlz x hxb.1 hxb.2 plus
  obtain ⟨kx, hkx⟩ := hX.rounds
  obtain ⟨T, hT⟩ : ∃ T, T = ptd (zs (q - u0.size) ++ u0) q := ⟨_, rfl⟩
  obtain ⟨X, hXe⟩ : ∃ X, X = lt ++ sg ++ t := ⟨_, rfl⟩
  have HPT := Lib.hid (fun W => pointed_any u0 q hq20 (by omega) W)
  have HXP := Lib.hid (fun W => laws_exponent.calls kx lt x plus _ W hkx)
  rw [← hT] at HPT
  rw [← hXe] at HXP
  have HU := Lib.hid hU
  have HI := Aside0.mk (And.intro hfig (And.intro hpv (And.intro hpz (And.intro hp0 (And.intro hp1 (And.intro hlz (And.intro hlc (And.intro hE (And.intro hxb (And.intro hq20 (And.intro huz huz2)))))))))))
  have hts : T.size ≤ 100 := by
    rw [hT, ptd_size _ _ (by rw [ByteArray.size_append, zs_size]; omega), ByteArray.size_append, zs_size]; omega
  have hxs : X.size ≤ 10 := by
    have h1 := hE.le
    have h2 : sg.size ≤ 1 := by rcases hE.way with ⟨rfl, _⟩ | ⟨rfl | rfl, _⟩ <;> decide
    rw [hXe, ByteArray.size_append, ByteArray.size_append]; omega
  have hz1 : ¬ 9223372036854775807 < pre.size + T.size := by omega
  have hz2 : ¬ 9223372036854775807 < (pre ++ T).size + X.size := by rw [ByteArray.size_append]; omega
  have hz3 : ¬ 9223372036854775807 < pre.size + T.size + X.size := by omega
  have hi1b : (i1 : Int) < 2 := by omega
  have hi2b : (i2 : Int) < 2 := by omega
  have hf1 : (fv : Int).tmod 2 = (i1 : Int) := by rw [hi1]; rfl
  have hwq : IntKind.u8.wrap ((fv : Int) / 2) = ((fv / 2 : Nat) : Int) := by simp [IntKind.wrap, IntKind.bits, IntKind.signed]; omega
  have hf2 : (IntKind.u8.wrap ((fv : Int) / 2)).tmod 2 = (i2 : Int) := by rw [hwq, hi2]; rfl
  clear hwq
  have hup' : decide ((fv : Int).tmod 4 < 2) = up := hup.symm
  have hpl' : decide (127 < (fv : Int)) = plus := hplus.symm
  have HTT := Lib.hid hT
  have HXX := Lib.hid hXe
  have HX0 := Lib.hid hx
  have HF := Lib.hid (And.intro hf1 (And.intro hf2 (And.intro hup' (And.intro hpl' hqi))))
  have HPRE := Lib.hid hpre
  have HLET := Lib.hid hlet
  clear hn hev hx hq hqi hi1 hi2 hup hplus hf1 hf2 hup' hpl' hpz hp0 hp1 hlz hlc hU hfig hpv hE hX hkx hT hXe hk he0 he1 hf hts hxs huz huz2 hq20 hxb hpre hlet
  go_enter Tryz.func5, Tryz.ntmps5
  go_wp2_with fail
  refine (HO.out _ (blk_cell (heap_alloc_new w _) 0)).mono ?_
  rintro e w1 ⟨r, rfl, hr, hb⟩
  have HR := Aside0.mk hr
  have HB1 := Aside0.mk (below_step (below_alloc (Below.refl w.heap.size w) (.cells #[.int .u64 n] 50)) hb)
  clear hr hb
  go_upto_region 3 with (fail)
  rw [← HX0.out, HF.out.2.2.2.2]
  obtain ⟨hf1, hf2, hup', hpl', -⟩ := HF.out
  have hpre := HPRE.out
  have hlet := HLET.out
  go_cut [12] (fun v W => v = .string ((pre ++ T) ++ X) ∧ HxS w n r [] W)
  case first =>
    refine wp_region_noPanic ?_
    refine wp_region_held_drew (S := HxS w n r []) (by kernel_rfl) ?_ (fun hHeld => ?_)
    · exact ⟨below_drew HB1.out, HR.out.below (below_drew (Below.refl _ _)), fun _ hm => by cases hm⟩
    generalize w1.drew = W0 at hHeld ⊢
    refine wpAnyH_take (i := 1) (oi := ⟨some 23, _, _, _, _, _⟩) (v := ?_) rfl (by kernel_rfl) (by kernel_rfl) (by kernel_rfl) (fun _ _ _ h => h) (Or.inl ⟨by rfl, ?_⟩) hHeld ?_
    rotate_left
    · intro w hSw; clear hSw; go_simp; first | done | with_reducible rfl
    try simp only [Act.put, List.setIfInBounds_toArray, List.set_cons_zero, List.set_cons_succ]
    refine wpAnyH_take (i := 2) (oi := ⟨some 24, _, _, _, _, _⟩) (v := ?_) rfl (by kernel_rfl) (by kernel_rfl) (by kernel_rfl) (fun _ _ _ h => h) (Or.inl ⟨by rfl, ?_⟩) hHeld ?_
    rotate_left
    · intro w hSw; clear hSw; go_simp; first | done | with_reducible rfl
    try simp only [Act.put, List.setIfInBounds_toArray, List.set_cons_zero, List.set_cons_succ]
    refine wpAnyH_take (i := 5) (oi := ⟨some 27, _, _, _, _, _⟩) (v := ?_) rfl (by kernel_rfl) (by kernel_rfl) (by kernel_rfl) (fun _ _ _ h => h) (Or.inl ⟨by rfl, ?_⟩) hHeld ?_
    rotate_left
    · intro w hSw; clear hSw; go_simp; first | done | with_reducible rfl
    try simp only [Act.put, List.setIfInBounds_toArray, List.set_cons_zero, List.set_cons_succ]
    refine wpAnyH_take (i := 6) (oi := ⟨some 28, _, _, _, _, _⟩) (v := ?_) rfl (by kernel_rfl) (by kernel_rfl) (by kernel_rfl) (fun _ _ _ h => h) (Or.inl ⟨by rfl, ?_⟩) hHeld ?_
    rotate_left
    · intro w hSw; clear hSw; go_simp; first | done | with_reducible rfl
    try simp only [Act.put, List.setIfInBounds_toArray, List.set_cons_zero, List.set_cons_succ]
    refine wpAnyH_take (i := 7) (oi := ⟨some 29, _, _, _, _, _⟩) (v := ?_) rfl (by kernel_rfl) (by kernel_rfl) (by kernel_rfl) (fun _ _ _ h => h) (Or.inl ⟨by rfl, ?_⟩) hHeld ?_
    rotate_left
    · intro w hSw; clear hSw; go_simp; first | done | with_reducible rfl
    try simp only [Act.put, List.setIfInBounds_toArray, List.set_cons_zero, List.set_cons_succ]
    refine wpAnyH_take (i := 8) (oi := ⟨some 30, _, _, _, _, _⟩) (v := ?_) rfl (by kernel_rfl) (by kernel_rfl) (by kernel_rfl) (fun _ _ _ h => h) (Or.inl ⟨by rfl, ?_⟩) hHeld ?_
    rotate_left
    · intro w hSw; clear hSw; go_simp; first | done | with_reducible rfl
    try simp only [Act.put, List.setIfInBounds_toArray, List.set_cons_zero, List.set_cons_succ]
    refine wpAnyH_take (i := 10) (oi := ⟨some 32, _, _, _, _, _⟩) (v := ?_) rfl (by kernel_rfl) (by kernel_rfl) (by kernel_rfl) (fun _ _ _ h => h) (Or.inl ⟨by rfl, ?_⟩) hHeld ?_
    rotate_left
    · intro w hSw; clear hSw; go_simp; first | done | with_reducible rfl
    try simp only [Act.put, List.setIfInBounds_toArray, List.set_cons_zero, List.set_cons_succ]
    refine wpAnyH_take (i := 14) (oi := ⟨some 36, _, _, _, _, _⟩) (v := ?_) rfl (by kernel_rfl) (by kernel_rfl) (by kernel_rfl) (fun _ _ _ h => h) (Or.inl ⟨by rfl, ?_⟩) hHeld ?_
    rotate_left
    · intro w hSw; clear hSw; go_simp; first | done | with_reducible rfl
    try simp only [Act.put, List.setIfInBounds_toArray, List.set_cons_zero, List.set_cons_succ]
    refine wpAnyH_take (i := 15) (oi := ⟨some 37, _, _, _, _, _⟩) (v := ?_) rfl (by kernel_rfl) (by kernel_rfl) (by kernel_rfl) (fun _ _ _ h => h) (Or.inl ⟨by rfl, ?_⟩) hHeld ?_
    rotate_left
    · intro w hSw; clear hSw; go_simp; first | done | with_reducible rfl
    try simp only [Act.put, List.setIfInBounds_toArray, List.set_cons_zero, List.set_cons_succ]
    refine wpAnyH_take (i := 16) (oi := ⟨some 38, _, _, _, _, _⟩) (v := ?_) rfl (by kernel_rfl) (by kernel_rfl) (by kernel_rfl) (fun _ _ _ h => h) (Or.inl ⟨by rfl, ?_⟩) hHeld ?_
    rotate_left
    · intro w hSw; clear hSw; go_simp; first | done | with_reducible rfl
    try simp only [Act.put, List.setIfInBounds_toArray, List.set_cons_zero, List.set_cons_succ]
    refine wpAnyH_take (i := 19) (oi := ⟨some 41, _, _, _, _, _⟩) (v := ?_) rfl (by kernel_rfl) (by kernel_rfl) (by kernel_rfl) (fun _ _ _ h => h) (Or.inl ⟨by rfl, ?_⟩) hHeld ?_
    rotate_left
    · intro w hSw; clear hSw; go_simp; first | done | with_reducible rfl
    try simp only [Act.put, List.setIfInBounds_toArray, List.set_cons_zero, List.set_cons_succ]
    refine wpAnyH_take (i := 20) (oi := ⟨some 42, _, _, _, _, _⟩) (v := ?_) rfl (by kernel_rfl) (by kernel_rfl) (by kernel_rfl) (fun _ _ _ h => h) (Or.inl ⟨by rfl, ?_⟩) hHeld ?_
    rotate_left
    · intro w hSw; clear hSw; go_simp; first | done | with_reducible rfl
    try simp only [Act.put, List.setIfInBounds_toArray, List.set_cons_zero, List.set_cons_succ]
    refine wpAnyH_take (i := 21) (oi := ⟨some 43, _, _, _, _, _⟩) (v := ?_) rfl (by kernel_rfl) (by kernel_rfl) (by kernel_rfl) (fun _ _ _ h => h) (Or.inl ⟨by rfl, ?_⟩) hHeld ?_
    rotate_left
    · intro w hSw; clear hSw; go_simp; first | done | with_reducible rfl
    try simp only [Act.put, List.setIfInBounds_toArray, List.set_cons_zero, List.set_cons_succ]
    refine wpAnyH_ready (rs := [0, 9, 13]) (by kernel_rfl) (by simp) ?_
    refine AllReadyH.cons rfl (fun K hK => ?_) (AllReadyH.cons rfl (fun K hK => ?_) (AllReadyH.cons rfl (fun K hK => ?_) AllReadyH.nil))
    · go_simp
      have hQ1 : HxS w n r ((W0.heap.size, arrA) :: []) (W0.alloc (.cells #[.string ⟨#[48, 120]⟩, .string ⟨#[48, 88]⟩] 9)) := HxS.cons hHeld arrA
      refine hK.out _ _ hQ1.tail (fun _ => ?_)
      clear hK K hHeld
      try simp only [Act.put, List.setIfInBounds_toArray, List.set_cons_zero, List.set_cons_succ]
      refine wpAnyH_turn (S' := HxS w n r ((W0.heap.size, arrA) :: [])) (fun _ h => h.tail) ?_ hQ1
      generalize W0.alloc (.cells #[.string ⟨#[48, 120]⟩, .string ⟨#[48, 88]⟩] 9) = W1 at hQ1 ⊢
      generalize W0.heap.size = b1 at hQ1 ⊢
      refine wpAnyH_take (i := 3) (oi := ⟨some 25, _, _, _, _, _⟩) (v := ?_) rfl (by kernel_rfl) (by kernel_rfl) (by kernel_rfl) (fun _ _ _ h => h) (Or.inl ⟨by rfl, ?_⟩) hQ1 ?_
      rotate_left
      · intro w hSw; clear hSw; go_simp; first | done | with_reducible rfl
      try simp only [Act.put, List.setIfInBounds_toArray, List.set_cons_zero, List.set_cons_succ]
      refine wpAnyH_take (i := 4) (oi := ⟨some 26, _, _, _, _, _⟩) (v := ?_) rfl (by kernel_rfl) (by kernel_rfl) (by kernel_rfl) (fun _ _ _ h => h) (Or.inl ⟨by rfl, ?_⟩) hQ1 ?_
      rotate_left
      · intro w hSw; have hc0 := HxS.cell hSw (List.Mem.head _) hpre; clear hSw; go_simp; first | done | with_reducible rfl
      try simp only [Act.put, List.setIfInBounds_toArray, List.set_cons_zero, List.set_cons_succ]
      refine wpAnyH_ready (rs := [9, 13]) (by kernel_rfl) (by simp) ?_
      refine AllReadyH.cons rfl (fun K hK => ?_) (AllReadyH.cons rfl (fun K hK => ?_) AllReadyH.nil)
      · go_simp
        refine (inBase_nd HU.out (HxS.nd hQ1)).mono ?_
        rintro e W2 ⟨rfl, hb⟩
        have hQ2 := HxS.next hQ1 hb
        clear hb
        go_wp2_with fail
        refine hK.out _ _ hQ2 (fun _ => ?_)
        clear hK K hQ1
        try simp only [Act.put, List.setIfInBounds_toArray, List.set_cons_zero, List.set_cons_succ]
        refine wpAnyH_ready (rs := [11, 13]) (by kernel_rfl) (by simp) ?_
        refine AllReadyH.cons rfl (fun K hK => ?_) (AllReadyH.cons rfl (fun K hK => ?_) AllReadyH.nil)
        · go_simp
          refine (HPT.out _).mono ?_
          rintro e W3 ⟨rfl, hb⟩
          have hQ3 := HxS.next hQ2 hb
          clear hb
          go_wp2_with fail
          refine hK.out _ _ hQ3 (fun _ => ?_)
          clear hK K hQ2
          try simp only [Act.put, List.setIfInBounds_toArray, List.set_cons_zero, List.set_cons_succ]
          refine wpAnyH_take (i := 12) (oi := ⟨some 34, _, _, _, _, _⟩) (v := ?_) rfl (by kernel_rfl) (by kernel_rfl) (by kernel_rfl) (fun _ _ _ h => h) (Or.inl ⟨by rfl, ?_⟩) hQ3 ?_
          rotate_left
          · intro w hSw; clear hSw; go_simp; first | done | with_reducible rfl
          try simp only [Act.put, List.setIfInBounds_toArray, List.set_cons_zero, List.set_cons_succ]
          refine wpAnyH_ready (rs := [13]) (by kernel_rfl) (by simp) ?_
          refine AllReadyH.cons rfl (fun K hK => ?_) AllReadyH.nil
          · go_simp
            have hQ4 : HxS w n r ((W3.heap.size, arrB) :: [(b1, arrA)]) (W3.alloc (.cells #[.string ⟨#[112]⟩, .string ⟨#[80]⟩] 9)) := HxS.cons hQ3 arrB
            refine hK.out _ _ hQ4.tail (fun _ => ?_)
            clear hK K hQ3
            try simp only [Act.put, List.setIfInBounds_toArray, List.set_cons_zero, List.set_cons_succ]
            refine wpAnyH_turn (S' := HxS w n r ((W3.heap.size, arrB) :: [(b1, arrA)])) (fun _ h => h.tail) ?_ hQ4
            generalize W3.alloc (.cells #[.string ⟨#[112]⟩, .string ⟨#[80]⟩] 9) = W4 at hQ4 ⊢
            generalize W3.heap.size = b2 at hQ4 ⊢
            refine wpAnyH_take (i := 17) (oi := ⟨some 39, _, _, _, _, _⟩) (v := ?_) rfl (by kernel_rfl) (by kernel_rfl) (by kernel_rfl) (fun _ _ _ h => h) (Or.inl ⟨by rfl, ?_⟩) hQ4 ?_
            rotate_left
            · intro w hSw; clear hSw; go_simp; first | done | with_reducible rfl
            try simp only [Act.put, List.setIfInBounds_toArray, List.set_cons_zero, List.set_cons_succ]
            refine wpAnyH_take (i := 18) (oi := ⟨some 40, _, _, _, _, _⟩) (v := ?_) rfl (by kernel_rfl) (by kernel_rfl) (by kernel_rfl) (fun _ _ _ h => h) (Or.inl ⟨by rfl, ?_⟩) hQ4 ?_
            rotate_left
            · intro w hSw; have hc0 := HxS.cell hSw (List.Mem.head _) hlet; clear hSw; go_simp; first | done | with_reducible rfl
            try simp only [Act.put, List.setIfInBounds_toArray, List.set_cons_zero, List.set_cons_succ]
            refine wpAnyH_ready (rs := [22]) (by kernel_rfl) (by simp) ?_
            refine AllReadyH.cons rfl (fun K hK => ?_) AllReadyH.nil
            · go_simp
              refine (HXP.out _).mono ?_
              rintro e W5 ⟨rfl, hb⟩
              have hQ5 := HxS.next hQ4 hb
              clear hb
              go_wp2_with fail
              refine hK.out _ _ hQ5 (fun _ => ?_)
              clear hK K hQ4
              try simp only [Act.put, List.setIfInBounds_toArray, List.set_cons_zero, List.set_cons_succ]
              refine wpAnyH_take (i := 23) (oi := ⟨some 45, _, _, _, _, _⟩) (v := ?_) rfl (by kernel_rfl) (by kernel_rfl) (by kernel_rfl) (fun _ _ _ h => h) (Or.inl ⟨by rfl, ?_⟩) hQ5 ?_
              rotate_left
              · intro w hSw; clear hSw; go_simp; first | done | with_reducible rfl
              try simp only [Act.put, List.setIfInBounds_toArray, List.set_cons_zero, List.set_cons_succ]
              refine wpAnyH_take (i := 24) (oi := ⟨some 12, _, _, _, _, _⟩) (v := ?_) rfl (by kernel_rfl) (by kernel_rfl) (by kernel_rfl) (fun _ _ _ h => h) (Or.inl ⟨by rfl, ?_⟩) hQ5 ?_
              rotate_left
              · intro w hSw; clear hSw; go_simp; first | done | with_reducible rfl
              try simp only [Act.put, List.setIfInBounds_toArray, List.set_cons_zero, List.set_cons_succ]
              refine wpAnyH_done (by kernel_rfl) ?_ _
              refine NoPanic.normal ?_
              go_wp2_with fail
              go_meet
              exact ⟨rfl, hQ5.nil⟩
        · go_simp
          have hQ6 : HxS w n r ((W2.heap.size, arrB) :: [(b1, arrA)]) (W2.alloc (.cells #[.string ⟨#[112]⟩, .string ⟨#[80]⟩] 9)) := HxS.cons hQ2 arrB
          refine hK.out _ _ hQ6.tail (fun _ => ?_)
          clear hK K hQ2
          try simp only [Act.put, List.setIfInBounds_toArray, List.set_cons_zero, List.set_cons_succ]
          refine wpAnyH_turn (S' := HxS w n r ((W2.heap.size, arrB) :: [(b1, arrA)])) (fun _ h => h.tail) ?_ hQ6
          generalize W2.alloc (.cells #[.string ⟨#[112]⟩, .string ⟨#[80]⟩] 9) = W6 at hQ6 ⊢
          generalize W2.heap.size = b2 at hQ6 ⊢
          refine wpAnyH_take (i := 17) (oi := ⟨some 39, _, _, _, _, _⟩) (v := ?_) rfl (by kernel_rfl) (by kernel_rfl) (by kernel_rfl) (fun _ _ _ h => h) (Or.inl ⟨by rfl, ?_⟩) hQ6 ?_
          rotate_left
          · intro w hSw; clear hSw; go_simp; first | done | with_reducible rfl
          try simp only [Act.put, List.setIfInBounds_toArray, List.set_cons_zero, List.set_cons_succ]
          refine wpAnyH_take (i := 18) (oi := ⟨some 40, _, _, _, _, _⟩) (v := ?_) rfl (by kernel_rfl) (by kernel_rfl) (by kernel_rfl) (fun _ _ _ h => h) (Or.inl ⟨by rfl, ?_⟩) hQ6 ?_
          rotate_left
          · intro w hSw; have hc0 := HxS.cell hSw (List.Mem.head _) hlet; clear hSw; go_simp; first | done | with_reducible rfl
          try simp only [Act.put, List.setIfInBounds_toArray, List.set_cons_zero, List.set_cons_succ]
          refine wpAnyH_ready (rs := [11]) (by kernel_rfl) (by simp) ?_
          refine AllReadyH.cons rfl (fun K hK => ?_) AllReadyH.nil
          · go_simp
            refine (HPT.out _).mono ?_
            rintro e W7 ⟨rfl, hb⟩
            have hQ7 := HxS.next hQ6 hb
            clear hb
            go_wp2_with fail
            refine hK.out _ _ hQ7 (fun _ => ?_)
            clear hK K hQ6
            try simp only [Act.put, List.setIfInBounds_toArray, List.set_cons_zero, List.set_cons_succ]
            refine wpAnyH_take (i := 12) (oi := ⟨some 34, _, _, _, _, _⟩) (v := ?_) rfl (by kernel_rfl) (by kernel_rfl) (by kernel_rfl) (fun _ _ _ h => h) (Or.inl ⟨by rfl, ?_⟩) hQ7 ?_
            rotate_left
            · intro w hSw; clear hSw; go_simp; first | done | with_reducible rfl
            try simp only [Act.put, List.setIfInBounds_toArray, List.set_cons_zero, List.set_cons_succ]
            refine wpAnyH_ready (rs := [22]) (by kernel_rfl) (by simp) ?_
            refine AllReadyH.cons rfl (fun K hK => ?_) AllReadyH.nil
            · go_simp
              refine (HXP.out _).mono ?_
              rintro e W8 ⟨rfl, hb⟩
              have hQ8 := HxS.next hQ7 hb
              clear hb
              go_wp2_with fail
              refine hK.out _ _ hQ8 (fun _ => ?_)
              clear hK K hQ7
              try simp only [Act.put, List.setIfInBounds_toArray, List.set_cons_zero, List.set_cons_succ]
              refine wpAnyH_take (i := 23) (oi := ⟨some 45, _, _, _, _, _⟩) (v := ?_) rfl (by kernel_rfl) (by kernel_rfl) (by kernel_rfl) (fun _ _ _ h => h) (Or.inl ⟨by rfl, ?_⟩) hQ8 ?_
              rotate_left
              · intro w hSw; clear hSw; go_simp; first | done | with_reducible rfl
              try simp only [Act.put, List.setIfInBounds_toArray, List.set_cons_zero, List.set_cons_succ]
              refine wpAnyH_take (i := 24) (oi := ⟨some 12, _, _, _, _, _⟩) (v := ?_) rfl (by kernel_rfl) (by kernel_rfl) (by kernel_rfl) (fun _ _ _ h => h) (Or.inl ⟨by rfl, ?_⟩) hQ8 ?_
              rotate_left
              · intro w hSw; clear hSw; go_simp; first | done | with_reducible rfl
              try simp only [Act.put, List.setIfInBounds_toArray, List.set_cons_zero, List.set_cons_succ]
              refine wpAnyH_done (by kernel_rfl) ?_ _
              refine NoPanic.normal ?_
              go_wp2_with fail
              go_meet
              exact ⟨rfl, hQ8.nil⟩
      · go_simp
        have hQ9 : HxS w n r ((W1.heap.size, arrB) :: [(b1, arrA)]) (W1.alloc (.cells #[.string ⟨#[112]⟩, .string ⟨#[80]⟩] 9)) := HxS.cons hQ1 arrB
        refine hK.out _ _ hQ9.tail (fun _ => ?_)
        clear hK K hQ1
        try simp only [Act.put, List.setIfInBounds_toArray, List.set_cons_zero, List.set_cons_succ]
        refine wpAnyH_turn (S' := HxS w n r ((W1.heap.size, arrB) :: [(b1, arrA)])) (fun _ h => h.tail) ?_ hQ9
        generalize W1.alloc (.cells #[.string ⟨#[112]⟩, .string ⟨#[80]⟩] 9) = W9 at hQ9 ⊢
        generalize W1.heap.size = b2 at hQ9 ⊢
        refine wpAnyH_take (i := 17) (oi := ⟨some 39, _, _, _, _, _⟩) (v := ?_) rfl (by kernel_rfl) (by kernel_rfl) (by kernel_rfl) (fun _ _ _ h => h) (Or.inl ⟨by rfl, ?_⟩) hQ9 ?_
        rotate_left
        · intro w hSw; clear hSw; go_simp; first | done | with_reducible rfl
        try simp only [Act.put, List.setIfInBounds_toArray, List.set_cons_zero, List.set_cons_succ]
        refine wpAnyH_take (i := 18) (oi := ⟨some 40, _, _, _, _, _⟩) (v := ?_) rfl (by kernel_rfl) (by kernel_rfl) (by kernel_rfl) (fun _ _ _ h => h) (Or.inl ⟨by rfl, ?_⟩) hQ9 ?_
        rotate_left
        · intro w hSw; have hc0 := HxS.cell hSw (List.Mem.head _) hlet; clear hSw; go_simp; first | done | with_reducible rfl
        try simp only [Act.put, List.setIfInBounds_toArray, List.set_cons_zero, List.set_cons_succ]
        refine wpAnyH_ready (rs := [9]) (by kernel_rfl) (by simp) ?_
        refine AllReadyH.cons rfl (fun K hK => ?_) AllReadyH.nil
        · go_simp
          refine (inBase_nd HU.out (HxS.nd hQ9)).mono ?_
          rintro e W10 ⟨rfl, hb⟩
          have hQ10 := HxS.next hQ9 hb
          clear hb
          go_wp2_with fail
          refine hK.out _ _ hQ10 (fun _ => ?_)
          clear hK K hQ9
          try simp only [Act.put, List.setIfInBounds_toArray, List.set_cons_zero, List.set_cons_succ]
          refine wpAnyH_ready (rs := [11]) (by kernel_rfl) (by simp) ?_
          refine AllReadyH.cons rfl (fun K hK => ?_) AllReadyH.nil
          · go_simp
            refine (HPT.out _).mono ?_
            rintro e W11 ⟨rfl, hb⟩
            have hQ11 := HxS.next hQ10 hb
            clear hb
            go_wp2_with fail
            refine hK.out _ _ hQ11 (fun _ => ?_)
            clear hK K hQ10
            try simp only [Act.put, List.setIfInBounds_toArray, List.set_cons_zero, List.set_cons_succ]
            refine wpAnyH_take (i := 12) (oi := ⟨some 34, _, _, _, _, _⟩) (v := ?_) rfl (by kernel_rfl) (by kernel_rfl) (by kernel_rfl) (fun _ _ _ h => h) (Or.inl ⟨by rfl, ?_⟩) hQ11 ?_
            rotate_left
            · intro w hSw; clear hSw; go_simp; first | done | with_reducible rfl
            try simp only [Act.put, List.setIfInBounds_toArray, List.set_cons_zero, List.set_cons_succ]
            refine wpAnyH_ready (rs := [22]) (by kernel_rfl) (by simp) ?_
            refine AllReadyH.cons rfl (fun K hK => ?_) AllReadyH.nil
            · go_simp
              refine (HXP.out _).mono ?_
              rintro e W12 ⟨rfl, hb⟩
              have hQ12 := HxS.next hQ11 hb
              clear hb
              go_wp2_with fail
              refine hK.out _ _ hQ12 (fun _ => ?_)
              clear hK K hQ11
              try simp only [Act.put, List.setIfInBounds_toArray, List.set_cons_zero, List.set_cons_succ]
              refine wpAnyH_take (i := 23) (oi := ⟨some 45, _, _, _, _, _⟩) (v := ?_) rfl (by kernel_rfl) (by kernel_rfl) (by kernel_rfl) (fun _ _ _ h => h) (Or.inl ⟨by rfl, ?_⟩) hQ12 ?_
              rotate_left
              · intro w hSw; clear hSw; go_simp; first | done | with_reducible rfl
              try simp only [Act.put, List.setIfInBounds_toArray, List.set_cons_zero, List.set_cons_succ]
              refine wpAnyH_take (i := 24) (oi := ⟨some 12, _, _, _, _, _⟩) (v := ?_) rfl (by kernel_rfl) (by kernel_rfl) (by kernel_rfl) (fun _ _ _ h => h) (Or.inl ⟨by rfl, ?_⟩) hQ12 ?_
              rotate_left
              · intro w hSw; clear hSw; go_simp; first | done | with_reducible rfl
              try simp only [Act.put, List.setIfInBounds_toArray, List.set_cons_zero, List.set_cons_succ]
              refine wpAnyH_done (by kernel_rfl) ?_ _
              refine NoPanic.normal ?_
              go_wp2_with fail
              go_meet
              exact ⟨rfl, hQ12.nil⟩
    · go_simp
      refine (inBase_nd HU.out (HxS.nd hHeld)).mono ?_
      rintro e W13 ⟨rfl, hb⟩
      have hQ13 := HxS.next hHeld hb
      clear hb
      go_wp2_with fail
      refine hK.out _ _ hQ13 (fun _ => ?_)
      clear hK K hHeld
      try simp only [Act.put, List.setIfInBounds_toArray, List.set_cons_zero, List.set_cons_succ]
      refine wpAnyH_ready (rs := [0, 11, 13]) (by kernel_rfl) (by simp) ?_
      refine AllReadyH.cons rfl (fun K hK => ?_) (AllReadyH.cons rfl (fun K hK => ?_) (AllReadyH.cons rfl (fun K hK => ?_) AllReadyH.nil))
      · go_simp
        have hQ14 : HxS w n r ((W13.heap.size, arrA) :: []) (W13.alloc (.cells #[.string ⟨#[48, 120]⟩, .string ⟨#[48, 88]⟩] 9)) := HxS.cons hQ13 arrA
        refine hK.out _ _ hQ14.tail (fun _ => ?_)
        clear hK K hQ13
        try simp only [Act.put, List.setIfInBounds_toArray, List.set_cons_zero, List.set_cons_succ]
        refine wpAnyH_turn (S' := HxS w n r ((W13.heap.size, arrA) :: [])) (fun _ h => h.tail) ?_ hQ14
        generalize W13.alloc (.cells #[.string ⟨#[48, 120]⟩, .string ⟨#[48, 88]⟩] 9) = W14 at hQ14 ⊢
        generalize W13.heap.size = b1 at hQ14 ⊢
        refine wpAnyH_take (i := 3) (oi := ⟨some 25, _, _, _, _, _⟩) (v := ?_) rfl (by kernel_rfl) (by kernel_rfl) (by kernel_rfl) (fun _ _ _ h => h) (Or.inl ⟨by rfl, ?_⟩) hQ14 ?_
        rotate_left
        · intro w hSw; clear hSw; go_simp; first | done | with_reducible rfl
        try simp only [Act.put, List.setIfInBounds_toArray, List.set_cons_zero, List.set_cons_succ]
        refine wpAnyH_take (i := 4) (oi := ⟨some 26, _, _, _, _, _⟩) (v := ?_) rfl (by kernel_rfl) (by kernel_rfl) (by kernel_rfl) (fun _ _ _ h => h) (Or.inl ⟨by rfl, ?_⟩) hQ14 ?_
        rotate_left
        · intro w hSw; have hc0 := HxS.cell hSw (List.Mem.head _) hpre; clear hSw; go_simp; first | done | with_reducible rfl
        try simp only [Act.put, List.setIfInBounds_toArray, List.set_cons_zero, List.set_cons_succ]
        refine wpAnyH_ready (rs := [11, 13]) (by kernel_rfl) (by simp) ?_
        refine AllReadyH.cons rfl (fun K hK => ?_) (AllReadyH.cons rfl (fun K hK => ?_) AllReadyH.nil)
        · go_simp
          refine (HPT.out _).mono ?_
          rintro e W15 ⟨rfl, hb⟩
          have hQ15 := HxS.next hQ14 hb
          clear hb
          go_wp2_with fail
          refine hK.out _ _ hQ15 (fun _ => ?_)
          clear hK K hQ14
          try simp only [Act.put, List.setIfInBounds_toArray, List.set_cons_zero, List.set_cons_succ]
          refine wpAnyH_take (i := 12) (oi := ⟨some 34, _, _, _, _, _⟩) (v := ?_) rfl (by kernel_rfl) (by kernel_rfl) (by kernel_rfl) (fun _ _ _ h => h) (Or.inl ⟨by rfl, ?_⟩) hQ15 ?_
          rotate_left
          · intro w hSw; clear hSw; go_simp; first | done | with_reducible rfl
          try simp only [Act.put, List.setIfInBounds_toArray, List.set_cons_zero, List.set_cons_succ]
          refine wpAnyH_ready (rs := [13]) (by kernel_rfl) (by simp) ?_
          refine AllReadyH.cons rfl (fun K hK => ?_) AllReadyH.nil
          · go_simp
            have hQ16 : HxS w n r ((W15.heap.size, arrB) :: [(b1, arrA)]) (W15.alloc (.cells #[.string ⟨#[112]⟩, .string ⟨#[80]⟩] 9)) := HxS.cons hQ15 arrB
            refine hK.out _ _ hQ16.tail (fun _ => ?_)
            clear hK K hQ15
            try simp only [Act.put, List.setIfInBounds_toArray, List.set_cons_zero, List.set_cons_succ]
            refine wpAnyH_turn (S' := HxS w n r ((W15.heap.size, arrB) :: [(b1, arrA)])) (fun _ h => h.tail) ?_ hQ16
            generalize W15.alloc (.cells #[.string ⟨#[112]⟩, .string ⟨#[80]⟩] 9) = W16 at hQ16 ⊢
            generalize W15.heap.size = b2 at hQ16 ⊢
            refine wpAnyH_take (i := 17) (oi := ⟨some 39, _, _, _, _, _⟩) (v := ?_) rfl (by kernel_rfl) (by kernel_rfl) (by kernel_rfl) (fun _ _ _ h => h) (Or.inl ⟨by rfl, ?_⟩) hQ16 ?_
            rotate_left
            · intro w hSw; clear hSw; go_simp; first | done | with_reducible rfl
            try simp only [Act.put, List.setIfInBounds_toArray, List.set_cons_zero, List.set_cons_succ]
            refine wpAnyH_take (i := 18) (oi := ⟨some 40, _, _, _, _, _⟩) (v := ?_) rfl (by kernel_rfl) (by kernel_rfl) (by kernel_rfl) (fun _ _ _ h => h) (Or.inl ⟨by rfl, ?_⟩) hQ16 ?_
            rotate_left
            · intro w hSw; have hc0 := HxS.cell hSw (List.Mem.head _) hlet; clear hSw; go_simp; first | done | with_reducible rfl
            try simp only [Act.put, List.setIfInBounds_toArray, List.set_cons_zero, List.set_cons_succ]
            refine wpAnyH_ready (rs := [22]) (by kernel_rfl) (by simp) ?_
            refine AllReadyH.cons rfl (fun K hK => ?_) AllReadyH.nil
            · go_simp
              refine (HXP.out _).mono ?_
              rintro e W17 ⟨rfl, hb⟩
              have hQ17 := HxS.next hQ16 hb
              clear hb
              go_wp2_with fail
              refine hK.out _ _ hQ17 (fun _ => ?_)
              clear hK K hQ16
              try simp only [Act.put, List.setIfInBounds_toArray, List.set_cons_zero, List.set_cons_succ]
              refine wpAnyH_take (i := 23) (oi := ⟨some 45, _, _, _, _, _⟩) (v := ?_) rfl (by kernel_rfl) (by kernel_rfl) (by kernel_rfl) (fun _ _ _ h => h) (Or.inl ⟨by rfl, ?_⟩) hQ17 ?_
              rotate_left
              · intro w hSw; clear hSw; go_simp; first | done | with_reducible rfl
              try simp only [Act.put, List.setIfInBounds_toArray, List.set_cons_zero, List.set_cons_succ]
              refine wpAnyH_take (i := 24) (oi := ⟨some 12, _, _, _, _, _⟩) (v := ?_) rfl (by kernel_rfl) (by kernel_rfl) (by kernel_rfl) (fun _ _ _ h => h) (Or.inl ⟨by rfl, ?_⟩) hQ17 ?_
              rotate_left
              · intro w hSw; clear hSw; go_simp; first | done | with_reducible rfl
              try simp only [Act.put, List.setIfInBounds_toArray, List.set_cons_zero, List.set_cons_succ]
              refine wpAnyH_done (by kernel_rfl) ?_ _
              refine NoPanic.normal ?_
              go_wp2_with fail
              go_meet
              exact ⟨rfl, hQ17.nil⟩
        · go_simp
          have hQ18 : HxS w n r ((W14.heap.size, arrB) :: [(b1, arrA)]) (W14.alloc (.cells #[.string ⟨#[112]⟩, .string ⟨#[80]⟩] 9)) := HxS.cons hQ14 arrB
          refine hK.out _ _ hQ18.tail (fun _ => ?_)
          clear hK K hQ14
          try simp only [Act.put, List.setIfInBounds_toArray, List.set_cons_zero, List.set_cons_succ]
          refine wpAnyH_turn (S' := HxS w n r ((W14.heap.size, arrB) :: [(b1, arrA)])) (fun _ h => h.tail) ?_ hQ18
          generalize W14.alloc (.cells #[.string ⟨#[112]⟩, .string ⟨#[80]⟩] 9) = W18 at hQ18 ⊢
          generalize W14.heap.size = b2 at hQ18 ⊢
          refine wpAnyH_take (i := 17) (oi := ⟨some 39, _, _, _, _, _⟩) (v := ?_) rfl (by kernel_rfl) (by kernel_rfl) (by kernel_rfl) (fun _ _ _ h => h) (Or.inl ⟨by rfl, ?_⟩) hQ18 ?_
          rotate_left
          · intro w hSw; clear hSw; go_simp; first | done | with_reducible rfl
          try simp only [Act.put, List.setIfInBounds_toArray, List.set_cons_zero, List.set_cons_succ]
          refine wpAnyH_take (i := 18) (oi := ⟨some 40, _, _, _, _, _⟩) (v := ?_) rfl (by kernel_rfl) (by kernel_rfl) (by kernel_rfl) (fun _ _ _ h => h) (Or.inl ⟨by rfl, ?_⟩) hQ18 ?_
          rotate_left
          · intro w hSw; have hc0 := HxS.cell hSw (List.Mem.head _) hlet; clear hSw; go_simp; first | done | with_reducible rfl
          try simp only [Act.put, List.setIfInBounds_toArray, List.set_cons_zero, List.set_cons_succ]
          refine wpAnyH_ready (rs := [11]) (by kernel_rfl) (by simp) ?_
          refine AllReadyH.cons rfl (fun K hK => ?_) AllReadyH.nil
          · go_simp
            refine (HPT.out _).mono ?_
            rintro e W19 ⟨rfl, hb⟩
            have hQ19 := HxS.next hQ18 hb
            clear hb
            go_wp2_with fail
            refine hK.out _ _ hQ19 (fun _ => ?_)
            clear hK K hQ18
            try simp only [Act.put, List.setIfInBounds_toArray, List.set_cons_zero, List.set_cons_succ]
            refine wpAnyH_take (i := 12) (oi := ⟨some 34, _, _, _, _, _⟩) (v := ?_) rfl (by kernel_rfl) (by kernel_rfl) (by kernel_rfl) (fun _ _ _ h => h) (Or.inl ⟨by rfl, ?_⟩) hQ19 ?_
            rotate_left
            · intro w hSw; clear hSw; go_simp; first | done | with_reducible rfl
            try simp only [Act.put, List.setIfInBounds_toArray, List.set_cons_zero, List.set_cons_succ]
            refine wpAnyH_ready (rs := [22]) (by kernel_rfl) (by simp) ?_
            refine AllReadyH.cons rfl (fun K hK => ?_) AllReadyH.nil
            · go_simp
              refine (HXP.out _).mono ?_
              rintro e W20 ⟨rfl, hb⟩
              have hQ20 := HxS.next hQ19 hb
              clear hb
              go_wp2_with fail
              refine hK.out _ _ hQ20 (fun _ => ?_)
              clear hK K hQ19
              try simp only [Act.put, List.setIfInBounds_toArray, List.set_cons_zero, List.set_cons_succ]
              refine wpAnyH_take (i := 23) (oi := ⟨some 45, _, _, _, _, _⟩) (v := ?_) rfl (by kernel_rfl) (by kernel_rfl) (by kernel_rfl) (fun _ _ _ h => h) (Or.inl ⟨by rfl, ?_⟩) hQ20 ?_
              rotate_left
              · intro w hSw; clear hSw; go_simp; first | done | with_reducible rfl
              try simp only [Act.put, List.setIfInBounds_toArray, List.set_cons_zero, List.set_cons_succ]
              refine wpAnyH_take (i := 24) (oi := ⟨some 12, _, _, _, _, _⟩) (v := ?_) rfl (by kernel_rfl) (by kernel_rfl) (by kernel_rfl) (fun _ _ _ h => h) (Or.inl ⟨by rfl, ?_⟩) hQ20 ?_
              rotate_left
              · intro w hSw; clear hSw; go_simp; first | done | with_reducible rfl
              try simp only [Act.put, List.setIfInBounds_toArray, List.set_cons_zero, List.set_cons_succ]
              refine wpAnyH_done (by kernel_rfl) ?_ _
              refine NoPanic.normal ?_
              go_wp2_with fail
              go_meet
              exact ⟨rfl, hQ20.nil⟩
      · go_simp
        refine (HPT.out _).mono ?_
        rintro e W21 ⟨rfl, hb⟩
        have hQ21 := HxS.next hQ13 hb
        clear hb
        go_wp2_with fail
        refine hK.out _ _ hQ21 (fun _ => ?_)
        clear hK K hQ13
        try simp only [Act.put, List.setIfInBounds_toArray, List.set_cons_zero, List.set_cons_succ]
        refine wpAnyH_ready (rs := [0, 13]) (by kernel_rfl) (by simp) ?_
        refine AllReadyH.cons rfl (fun K hK => ?_) (AllReadyH.cons rfl (fun K hK => ?_) AllReadyH.nil)
        · go_simp
          have hQ22 : HxS w n r ((W21.heap.size, arrA) :: []) (W21.alloc (.cells #[.string ⟨#[48, 120]⟩, .string ⟨#[48, 88]⟩] 9)) := HxS.cons hQ21 arrA
          refine hK.out _ _ hQ22.tail (fun _ => ?_)
          clear hK K hQ21
          try simp only [Act.put, List.setIfInBounds_toArray, List.set_cons_zero, List.set_cons_succ]
          refine wpAnyH_turn (S' := HxS w n r ((W21.heap.size, arrA) :: [])) (fun _ h => h.tail) ?_ hQ22
          generalize W21.alloc (.cells #[.string ⟨#[48, 120]⟩, .string ⟨#[48, 88]⟩] 9) = W22 at hQ22 ⊢
          generalize W21.heap.size = b1 at hQ22 ⊢
          refine wpAnyH_take (i := 3) (oi := ⟨some 25, _, _, _, _, _⟩) (v := ?_) rfl (by kernel_rfl) (by kernel_rfl) (by kernel_rfl) (fun _ _ _ h => h) (Or.inl ⟨by rfl, ?_⟩) hQ22 ?_
          rotate_left
          · intro w hSw; clear hSw; go_simp; first | done | with_reducible rfl
          try simp only [Act.put, List.setIfInBounds_toArray, List.set_cons_zero, List.set_cons_succ]
          refine wpAnyH_take (i := 4) (oi := ⟨some 26, _, _, _, _, _⟩) (v := ?_) rfl (by kernel_rfl) (by kernel_rfl) (by kernel_rfl) (fun _ _ _ h => h) (Or.inl ⟨by rfl, ?_⟩) hQ22 ?_
          rotate_left
          · intro w hSw; have hc0 := HxS.cell hSw (List.Mem.head _) hpre; clear hSw; go_simp; first | done | with_reducible rfl
          try simp only [Act.put, List.setIfInBounds_toArray, List.set_cons_zero, List.set_cons_succ]
          refine wpAnyH_take (i := 12) (oi := ⟨some 34, _, _, _, _, _⟩) (v := ?_) rfl (by kernel_rfl) (by kernel_rfl) (by kernel_rfl) (fun _ _ _ h => h) (Or.inl ⟨by rfl, ?_⟩) hQ22 ?_
          rotate_left
          · intro w hSw; clear hSw; go_simp; first | done | with_reducible rfl
          try simp only [Act.put, List.setIfInBounds_toArray, List.set_cons_zero, List.set_cons_succ]
          refine wpAnyH_ready (rs := [13]) (by kernel_rfl) (by simp) ?_
          refine AllReadyH.cons rfl (fun K hK => ?_) AllReadyH.nil
          · go_simp
            have hQ23 : HxS w n r ((W22.heap.size, arrB) :: [(b1, arrA)]) (W22.alloc (.cells #[.string ⟨#[112]⟩, .string ⟨#[80]⟩] 9)) := HxS.cons hQ22 arrB
            refine hK.out _ _ hQ23.tail (fun _ => ?_)
            clear hK K hQ22
            try simp only [Act.put, List.setIfInBounds_toArray, List.set_cons_zero, List.set_cons_succ]
            refine wpAnyH_turn (S' := HxS w n r ((W22.heap.size, arrB) :: [(b1, arrA)])) (fun _ h => h.tail) ?_ hQ23
            generalize W22.alloc (.cells #[.string ⟨#[112]⟩, .string ⟨#[80]⟩] 9) = W23 at hQ23 ⊢
            generalize W22.heap.size = b2 at hQ23 ⊢
            refine wpAnyH_take (i := 17) (oi := ⟨some 39, _, _, _, _, _⟩) (v := ?_) rfl (by kernel_rfl) (by kernel_rfl) (by kernel_rfl) (fun _ _ _ h => h) (Or.inl ⟨by rfl, ?_⟩) hQ23 ?_
            rotate_left
            · intro w hSw; clear hSw; go_simp; first | done | with_reducible rfl
            try simp only [Act.put, List.setIfInBounds_toArray, List.set_cons_zero, List.set_cons_succ]
            refine wpAnyH_take (i := 18) (oi := ⟨some 40, _, _, _, _, _⟩) (v := ?_) rfl (by kernel_rfl) (by kernel_rfl) (by kernel_rfl) (fun _ _ _ h => h) (Or.inl ⟨by rfl, ?_⟩) hQ23 ?_
            rotate_left
            · intro w hSw; have hc0 := HxS.cell hSw (List.Mem.head _) hlet; clear hSw; go_simp; first | done | with_reducible rfl
            try simp only [Act.put, List.setIfInBounds_toArray, List.set_cons_zero, List.set_cons_succ]
            refine wpAnyH_ready (rs := [22]) (by kernel_rfl) (by simp) ?_
            refine AllReadyH.cons rfl (fun K hK => ?_) AllReadyH.nil
            · go_simp
              refine (HXP.out _).mono ?_
              rintro e W24 ⟨rfl, hb⟩
              have hQ24 := HxS.next hQ23 hb
              clear hb
              go_wp2_with fail
              refine hK.out _ _ hQ24 (fun _ => ?_)
              clear hK K hQ23
              try simp only [Act.put, List.setIfInBounds_toArray, List.set_cons_zero, List.set_cons_succ]
              refine wpAnyH_take (i := 23) (oi := ⟨some 45, _, _, _, _, _⟩) (v := ?_) rfl (by kernel_rfl) (by kernel_rfl) (by kernel_rfl) (fun _ _ _ h => h) (Or.inl ⟨by rfl, ?_⟩) hQ24 ?_
              rotate_left
              · intro w hSw; clear hSw; go_simp; first | done | with_reducible rfl
              try simp only [Act.put, List.setIfInBounds_toArray, List.set_cons_zero, List.set_cons_succ]
              refine wpAnyH_take (i := 24) (oi := ⟨some 12, _, _, _, _, _⟩) (v := ?_) rfl (by kernel_rfl) (by kernel_rfl) (by kernel_rfl) (fun _ _ _ h => h) (Or.inl ⟨by rfl, ?_⟩) hQ24 ?_
              rotate_left
              · intro w hSw; clear hSw; go_simp; first | done | with_reducible rfl
              try simp only [Act.put, List.setIfInBounds_toArray, List.set_cons_zero, List.set_cons_succ]
              refine wpAnyH_done (by kernel_rfl) ?_ _
              refine NoPanic.normal ?_
              go_wp2_with fail
              go_meet
              exact ⟨rfl, hQ24.nil⟩
        · go_simp
          have hQ25 : HxS w n r ((W21.heap.size, arrB) :: []) (W21.alloc (.cells #[.string ⟨#[112]⟩, .string ⟨#[80]⟩] 9)) := HxS.cons hQ21 arrB
          refine hK.out _ _ hQ25.tail (fun _ => ?_)
          clear hK K hQ21
          try simp only [Act.put, List.setIfInBounds_toArray, List.set_cons_zero, List.set_cons_succ]
          refine wpAnyH_turn (S' := HxS w n r ((W21.heap.size, arrB) :: [])) (fun _ h => h.tail) ?_ hQ25
          generalize W21.alloc (.cells #[.string ⟨#[112]⟩, .string ⟨#[80]⟩] 9) = W25 at hQ25 ⊢
          generalize W21.heap.size = b2 at hQ25 ⊢
          refine wpAnyH_take (i := 17) (oi := ⟨some 39, _, _, _, _, _⟩) (v := ?_) rfl (by kernel_rfl) (by kernel_rfl) (by kernel_rfl) (fun _ _ _ h => h) (Or.inl ⟨by rfl, ?_⟩) hQ25 ?_
          rotate_left
          · intro w hSw; clear hSw; go_simp; first | done | with_reducible rfl
          try simp only [Act.put, List.setIfInBounds_toArray, List.set_cons_zero, List.set_cons_succ]
          refine wpAnyH_take (i := 18) (oi := ⟨some 40, _, _, _, _, _⟩) (v := ?_) rfl (by kernel_rfl) (by kernel_rfl) (by kernel_rfl) (fun _ _ _ h => h) (Or.inl ⟨by rfl, ?_⟩) hQ25 ?_
          rotate_left
          · intro w hSw; have hc0 := HxS.cell hSw (List.Mem.head _) hlet; clear hSw; go_simp; first | done | with_reducible rfl
          try simp only [Act.put, List.setIfInBounds_toArray, List.set_cons_zero, List.set_cons_succ]
          refine wpAnyH_ready (rs := [0, 22]) (by kernel_rfl) (by simp) ?_
          refine AllReadyH.cons rfl (fun K hK => ?_) (AllReadyH.cons rfl (fun K hK => ?_) AllReadyH.nil)
          · go_simp
            have hQ26 : HxS w n r ((W25.heap.size, arrA) :: [(b2, arrB)]) (W25.alloc (.cells #[.string ⟨#[48, 120]⟩, .string ⟨#[48, 88]⟩] 9)) := HxS.cons hQ25 arrA
            refine hK.out _ _ hQ26.tail (fun _ => ?_)
            clear hK K hQ25
            try simp only [Act.put, List.setIfInBounds_toArray, List.set_cons_zero, List.set_cons_succ]
            refine wpAnyH_turn (S' := HxS w n r ((W25.heap.size, arrA) :: [(b2, arrB)])) (fun _ h => h.tail) ?_ hQ26
            generalize W25.alloc (.cells #[.string ⟨#[48, 120]⟩, .string ⟨#[48, 88]⟩] 9) = W26 at hQ26 ⊢
            generalize W25.heap.size = b1 at hQ26 ⊢
            refine wpAnyH_take (i := 3) (oi := ⟨some 25, _, _, _, _, _⟩) (v := ?_) rfl (by kernel_rfl) (by kernel_rfl) (by kernel_rfl) (fun _ _ _ h => h) (Or.inl ⟨by rfl, ?_⟩) hQ26 ?_
            rotate_left
            · intro w hSw; clear hSw; go_simp; first | done | with_reducible rfl
            try simp only [Act.put, List.setIfInBounds_toArray, List.set_cons_zero, List.set_cons_succ]
            refine wpAnyH_take (i := 4) (oi := ⟨some 26, _, _, _, _, _⟩) (v := ?_) rfl (by kernel_rfl) (by kernel_rfl) (by kernel_rfl) (fun _ _ _ h => h) (Or.inl ⟨by rfl, ?_⟩) hQ26 ?_
            rotate_left
            · intro w hSw; have hc0 := HxS.cell hSw (List.Mem.head _) hpre; clear hSw; go_simp; first | done | with_reducible rfl
            try simp only [Act.put, List.setIfInBounds_toArray, List.set_cons_zero, List.set_cons_succ]
            refine wpAnyH_take (i := 12) (oi := ⟨some 34, _, _, _, _, _⟩) (v := ?_) rfl (by kernel_rfl) (by kernel_rfl) (by kernel_rfl) (fun _ _ _ h => h) (Or.inl ⟨by rfl, ?_⟩) hQ26 ?_
            rotate_left
            · intro w hSw; clear hSw; go_simp; first | done | with_reducible rfl
            try simp only [Act.put, List.setIfInBounds_toArray, List.set_cons_zero, List.set_cons_succ]
            refine wpAnyH_ready (rs := [22]) (by kernel_rfl) (by simp) ?_
            refine AllReadyH.cons rfl (fun K hK => ?_) AllReadyH.nil
            · go_simp
              refine (HXP.out _).mono ?_
              rintro e W27 ⟨rfl, hb⟩
              have hQ27 := HxS.next hQ26 hb
              clear hb
              go_wp2_with fail
              refine hK.out _ _ hQ27 (fun _ => ?_)
              clear hK K hQ26
              try simp only [Act.put, List.setIfInBounds_toArray, List.set_cons_zero, List.set_cons_succ]
              refine wpAnyH_take (i := 23) (oi := ⟨some 45, _, _, _, _, _⟩) (v := ?_) rfl (by kernel_rfl) (by kernel_rfl) (by kernel_rfl) (fun _ _ _ h => h) (Or.inl ⟨by rfl, ?_⟩) hQ27 ?_
              rotate_left
              · intro w hSw; clear hSw; go_simp; first | done | with_reducible rfl
              try simp only [Act.put, List.setIfInBounds_toArray, List.set_cons_zero, List.set_cons_succ]
              refine wpAnyH_take (i := 24) (oi := ⟨some 12, _, _, _, _, _⟩) (v := ?_) rfl (by kernel_rfl) (by kernel_rfl) (by kernel_rfl) (fun _ _ _ h => h) (Or.inl ⟨by rfl, ?_⟩) hQ27 ?_
              rotate_left
              · intro w hSw; clear hSw; go_simp; first | done | with_reducible rfl
              try simp only [Act.put, List.setIfInBounds_toArray, List.set_cons_zero, List.set_cons_succ]
              refine wpAnyH_done (by kernel_rfl) ?_ _
              refine NoPanic.normal ?_
              go_wp2_with fail
              go_meet
              exact ⟨rfl, hQ27.nil⟩
          · go_simp
            refine (HXP.out _).mono ?_
            rintro e W28 ⟨rfl, hb⟩
            have hQ28 := HxS.next hQ25 hb
            clear hb
            go_wp2_with fail
            refine hK.out _ _ hQ28 (fun _ => ?_)
            clear hK K hQ25
            try simp only [Act.put, List.setIfInBounds_toArray, List.set_cons_zero, List.set_cons_succ]
            refine wpAnyH_ready (rs := [0]) (by kernel_rfl) (by simp) ?_
            refine AllReadyH.cons rfl (fun K hK => ?_) AllReadyH.nil
            · go_simp
              have hQ29 : HxS w n r ((W28.heap.size, arrA) :: [(b2, arrB)]) (W28.alloc (.cells #[.string ⟨#[48, 120]⟩, .string ⟨#[48, 88]⟩] 9)) := HxS.cons hQ28 arrA
              refine hK.out _ _ hQ29.tail (fun _ => ?_)
              clear hK K hQ28
              try simp only [Act.put, List.setIfInBounds_toArray, List.set_cons_zero, List.set_cons_succ]
              refine wpAnyH_turn (S' := HxS w n r ((W28.heap.size, arrA) :: [(b2, arrB)])) (fun _ h => h.tail) ?_ hQ29
              generalize W28.alloc (.cells #[.string ⟨#[48, 120]⟩, .string ⟨#[48, 88]⟩] 9) = W29 at hQ29 ⊢
              generalize W28.heap.size = b1 at hQ29 ⊢
              refine wpAnyH_take (i := 3) (oi := ⟨some 25, _, _, _, _, _⟩) (v := ?_) rfl (by kernel_rfl) (by kernel_rfl) (by kernel_rfl) (fun _ _ _ h => h) (Or.inl ⟨by rfl, ?_⟩) hQ29 ?_
              rotate_left
              · intro w hSw; clear hSw; go_simp; first | done | with_reducible rfl
              try simp only [Act.put, List.setIfInBounds_toArray, List.set_cons_zero, List.set_cons_succ]
              refine wpAnyH_take (i := 4) (oi := ⟨some 26, _, _, _, _, _⟩) (v := ?_) rfl (by kernel_rfl) (by kernel_rfl) (by kernel_rfl) (fun _ _ _ h => h) (Or.inl ⟨by rfl, ?_⟩) hQ29 ?_
              rotate_left
              · intro w hSw; have hc0 := HxS.cell hSw (List.Mem.head _) hpre; clear hSw; go_simp; first | done | with_reducible rfl
              try simp only [Act.put, List.setIfInBounds_toArray, List.set_cons_zero, List.set_cons_succ]
              refine wpAnyH_take (i := 12) (oi := ⟨some 34, _, _, _, _, _⟩) (v := ?_) rfl (by kernel_rfl) (by kernel_rfl) (by kernel_rfl) (fun _ _ _ h => h) (Or.inl ⟨by rfl, ?_⟩) hQ29 ?_
              rotate_left
              · intro w hSw; clear hSw; go_simp; first | done | with_reducible rfl
              try simp only [Act.put, List.setIfInBounds_toArray, List.set_cons_zero, List.set_cons_succ]
              refine wpAnyH_take (i := 23) (oi := ⟨some 45, _, _, _, _, _⟩) (v := ?_) rfl (by kernel_rfl) (by kernel_rfl) (by kernel_rfl) (fun _ _ _ h => h) (Or.inl ⟨by rfl, ?_⟩) hQ29 ?_
              rotate_left
              · intro w hSw; clear hSw; go_simp; first | done | with_reducible rfl
              try simp only [Act.put, List.setIfInBounds_toArray, List.set_cons_zero, List.set_cons_succ]
              refine wpAnyH_take (i := 24) (oi := ⟨some 12, _, _, _, _, _⟩) (v := ?_) rfl (by kernel_rfl) (by kernel_rfl) (by kernel_rfl) (fun _ _ _ h => h) (Or.inl ⟨by rfl, ?_⟩) hQ29 ?_
              rotate_left
              · intro w hSw; clear hSw; go_simp; first | done | with_reducible rfl
              try simp only [Act.put, List.setIfInBounds_toArray, List.set_cons_zero, List.set_cons_succ]
              refine wpAnyH_done (by kernel_rfl) ?_ _
              refine NoPanic.normal ?_
              go_wp2_with fail
              go_meet
              exact ⟨rfl, hQ29.nil⟩
      · go_simp
        have hQ30 : HxS w n r ((W13.heap.size, arrB) :: []) (W13.alloc (.cells #[.string ⟨#[112]⟩, .string ⟨#[80]⟩] 9)) := HxS.cons hQ13 arrB
        refine hK.out _ _ hQ30.tail (fun _ => ?_)
        clear hK K hQ13
        try simp only [Act.put, List.setIfInBounds_toArray, List.set_cons_zero, List.set_cons_succ]
        refine wpAnyH_turn (S' := HxS w n r ((W13.heap.size, arrB) :: [])) (fun _ h => h.tail) ?_ hQ30
        generalize W13.alloc (.cells #[.string ⟨#[112]⟩, .string ⟨#[80]⟩] 9) = W30 at hQ30 ⊢
        generalize W13.heap.size = b2 at hQ30 ⊢
        refine wpAnyH_take (i := 17) (oi := ⟨some 39, _, _, _, _, _⟩) (v := ?_) rfl (by kernel_rfl) (by kernel_rfl) (by kernel_rfl) (fun _ _ _ h => h) (Or.inl ⟨by rfl, ?_⟩) hQ30 ?_
        rotate_left
        · intro w hSw; clear hSw; go_simp; first | done | with_reducible rfl
        try simp only [Act.put, List.setIfInBounds_toArray, List.set_cons_zero, List.set_cons_succ]
        refine wpAnyH_take (i := 18) (oi := ⟨some 40, _, _, _, _, _⟩) (v := ?_) rfl (by kernel_rfl) (by kernel_rfl) (by kernel_rfl) (fun _ _ _ h => h) (Or.inl ⟨by rfl, ?_⟩) hQ30 ?_
        rotate_left
        · intro w hSw; have hc0 := HxS.cell hSw (List.Mem.head _) hlet; clear hSw; go_simp; first | done | with_reducible rfl
        try simp only [Act.put, List.setIfInBounds_toArray, List.set_cons_zero, List.set_cons_succ]
        refine wpAnyH_ready (rs := [0, 11]) (by kernel_rfl) (by simp) ?_
        refine AllReadyH.cons rfl (fun K hK => ?_) (AllReadyH.cons rfl (fun K hK => ?_) AllReadyH.nil)
        · go_simp
          have hQ31 : HxS w n r ((W30.heap.size, arrA) :: [(b2, arrB)]) (W30.alloc (.cells #[.string ⟨#[48, 120]⟩, .string ⟨#[48, 88]⟩] 9)) := HxS.cons hQ30 arrA
          refine hK.out _ _ hQ31.tail (fun _ => ?_)
          clear hK K hQ30
          try simp only [Act.put, List.setIfInBounds_toArray, List.set_cons_zero, List.set_cons_succ]
          refine wpAnyH_turn (S' := HxS w n r ((W30.heap.size, arrA) :: [(b2, arrB)])) (fun _ h => h.tail) ?_ hQ31
          generalize W30.alloc (.cells #[.string ⟨#[48, 120]⟩, .string ⟨#[48, 88]⟩] 9) = W31 at hQ31 ⊢
          generalize W30.heap.size = b1 at hQ31 ⊢
          refine wpAnyH_take (i := 3) (oi := ⟨some 25, _, _, _, _, _⟩) (v := ?_) rfl (by kernel_rfl) (by kernel_rfl) (by kernel_rfl) (fun _ _ _ h => h) (Or.inl ⟨by rfl, ?_⟩) hQ31 ?_
          rotate_left
          · intro w hSw; clear hSw; go_simp; first | done | with_reducible rfl
          try simp only [Act.put, List.setIfInBounds_toArray, List.set_cons_zero, List.set_cons_succ]
          refine wpAnyH_take (i := 4) (oi := ⟨some 26, _, _, _, _, _⟩) (v := ?_) rfl (by kernel_rfl) (by kernel_rfl) (by kernel_rfl) (fun _ _ _ h => h) (Or.inl ⟨by rfl, ?_⟩) hQ31 ?_
          rotate_left
          · intro w hSw; have hc0 := HxS.cell hSw (List.Mem.head _) hpre; clear hSw; go_simp; first | done | with_reducible rfl
          try simp only [Act.put, List.setIfInBounds_toArray, List.set_cons_zero, List.set_cons_succ]
          refine wpAnyH_ready (rs := [11]) (by kernel_rfl) (by simp) ?_
          refine AllReadyH.cons rfl (fun K hK => ?_) AllReadyH.nil
          · go_simp
            refine (HPT.out _).mono ?_
            rintro e W32 ⟨rfl, hb⟩
            have hQ32 := HxS.next hQ31 hb
            clear hb
            go_wp2_with fail
            refine hK.out _ _ hQ32 (fun _ => ?_)
            clear hK K hQ31
            try simp only [Act.put, List.setIfInBounds_toArray, List.set_cons_zero, List.set_cons_succ]
            refine wpAnyH_take (i := 12) (oi := ⟨some 34, _, _, _, _, _⟩) (v := ?_) rfl (by kernel_rfl) (by kernel_rfl) (by kernel_rfl) (fun _ _ _ h => h) (Or.inl ⟨by rfl, ?_⟩) hQ32 ?_
            rotate_left
            · intro w hSw; clear hSw; go_simp; first | done | with_reducible rfl
            try simp only [Act.put, List.setIfInBounds_toArray, List.set_cons_zero, List.set_cons_succ]
            refine wpAnyH_ready (rs := [22]) (by kernel_rfl) (by simp) ?_
            refine AllReadyH.cons rfl (fun K hK => ?_) AllReadyH.nil
            · go_simp
              refine (HXP.out _).mono ?_
              rintro e W33 ⟨rfl, hb⟩
              have hQ33 := HxS.next hQ32 hb
              clear hb
              go_wp2_with fail
              refine hK.out _ _ hQ33 (fun _ => ?_)
              clear hK K hQ32
              try simp only [Act.put, List.setIfInBounds_toArray, List.set_cons_zero, List.set_cons_succ]
              refine wpAnyH_take (i := 23) (oi := ⟨some 45, _, _, _, _, _⟩) (v := ?_) rfl (by kernel_rfl) (by kernel_rfl) (by kernel_rfl) (fun _ _ _ h => h) (Or.inl ⟨by rfl, ?_⟩) hQ33 ?_
              rotate_left
              · intro w hSw; clear hSw; go_simp; first | done | with_reducible rfl
              try simp only [Act.put, List.setIfInBounds_toArray, List.set_cons_zero, List.set_cons_succ]
              refine wpAnyH_take (i := 24) (oi := ⟨some 12, _, _, _, _, _⟩) (v := ?_) rfl (by kernel_rfl) (by kernel_rfl) (by kernel_rfl) (fun _ _ _ h => h) (Or.inl ⟨by rfl, ?_⟩) hQ33 ?_
              rotate_left
              · intro w hSw; clear hSw; go_simp; first | done | with_reducible rfl
              try simp only [Act.put, List.setIfInBounds_toArray, List.set_cons_zero, List.set_cons_succ]
              refine wpAnyH_done (by kernel_rfl) ?_ _
              refine NoPanic.normal ?_
              go_wp2_with fail
              go_meet
              exact ⟨rfl, hQ33.nil⟩
        · go_simp
          refine (HPT.out _).mono ?_
          rintro e W34 ⟨rfl, hb⟩
          have hQ34 := HxS.next hQ30 hb
          clear hb
          go_wp2_with fail
          refine hK.out _ _ hQ34 (fun _ => ?_)
          clear hK K hQ30
          try simp only [Act.put, List.setIfInBounds_toArray, List.set_cons_zero, List.set_cons_succ]
          refine wpAnyH_ready (rs := [0, 22]) (by kernel_rfl) (by simp) ?_
          refine AllReadyH.cons rfl (fun K hK => ?_) (AllReadyH.cons rfl (fun K hK => ?_) AllReadyH.nil)
          · go_simp
            have hQ35 : HxS w n r ((W34.heap.size, arrA) :: [(b2, arrB)]) (W34.alloc (.cells #[.string ⟨#[48, 120]⟩, .string ⟨#[48, 88]⟩] 9)) := HxS.cons hQ34 arrA
            refine hK.out _ _ hQ35.tail (fun _ => ?_)
            clear hK K hQ34
            try simp only [Act.put, List.setIfInBounds_toArray, List.set_cons_zero, List.set_cons_succ]
            refine wpAnyH_turn (S' := HxS w n r ((W34.heap.size, arrA) :: [(b2, arrB)])) (fun _ h => h.tail) ?_ hQ35
            generalize W34.alloc (.cells #[.string ⟨#[48, 120]⟩, .string ⟨#[48, 88]⟩] 9) = W35 at hQ35 ⊢
            generalize W34.heap.size = b1 at hQ35 ⊢
            refine wpAnyH_take (i := 3) (oi := ⟨some 25, _, _, _, _, _⟩) (v := ?_) rfl (by kernel_rfl) (by kernel_rfl) (by kernel_rfl) (fun _ _ _ h => h) (Or.inl ⟨by rfl, ?_⟩) hQ35 ?_
            rotate_left
            · intro w hSw; clear hSw; go_simp; first | done | with_reducible rfl
            try simp only [Act.put, List.setIfInBounds_toArray, List.set_cons_zero, List.set_cons_succ]
            refine wpAnyH_take (i := 4) (oi := ⟨some 26, _, _, _, _, _⟩) (v := ?_) rfl (by kernel_rfl) (by kernel_rfl) (by kernel_rfl) (fun _ _ _ h => h) (Or.inl ⟨by rfl, ?_⟩) hQ35 ?_
            rotate_left
            · intro w hSw; have hc0 := HxS.cell hSw (List.Mem.head _) hpre; clear hSw; go_simp; first | done | with_reducible rfl
            try simp only [Act.put, List.setIfInBounds_toArray, List.set_cons_zero, List.set_cons_succ]
            refine wpAnyH_take (i := 12) (oi := ⟨some 34, _, _, _, _, _⟩) (v := ?_) rfl (by kernel_rfl) (by kernel_rfl) (by kernel_rfl) (fun _ _ _ h => h) (Or.inl ⟨by rfl, ?_⟩) hQ35 ?_
            rotate_left
            · intro w hSw; clear hSw; go_simp; first | done | with_reducible rfl
            try simp only [Act.put, List.setIfInBounds_toArray, List.set_cons_zero, List.set_cons_succ]
            refine wpAnyH_ready (rs := [22]) (by kernel_rfl) (by simp) ?_
            refine AllReadyH.cons rfl (fun K hK => ?_) AllReadyH.nil
            · go_simp
              refine (HXP.out _).mono ?_
              rintro e W36 ⟨rfl, hb⟩
              have hQ36 := HxS.next hQ35 hb
              clear hb
              go_wp2_with fail
              refine hK.out _ _ hQ36 (fun _ => ?_)
              clear hK K hQ35
              try simp only [Act.put, List.setIfInBounds_toArray, List.set_cons_zero, List.set_cons_succ]
              refine wpAnyH_take (i := 23) (oi := ⟨some 45, _, _, _, _, _⟩) (v := ?_) rfl (by kernel_rfl) (by kernel_rfl) (by kernel_rfl) (fun _ _ _ h => h) (Or.inl ⟨by rfl, ?_⟩) hQ36 ?_
              rotate_left
              · intro w hSw; clear hSw; go_simp; first | done | with_reducible rfl
              try simp only [Act.put, List.setIfInBounds_toArray, List.set_cons_zero, List.set_cons_succ]
              refine wpAnyH_take (i := 24) (oi := ⟨some 12, _, _, _, _, _⟩) (v := ?_) rfl (by kernel_rfl) (by kernel_rfl) (by kernel_rfl) (fun _ _ _ h => h) (Or.inl ⟨by rfl, ?_⟩) hQ36 ?_
              rotate_left
              · intro w hSw; clear hSw; go_simp; first | done | with_reducible rfl
              try simp only [Act.put, List.setIfInBounds_toArray, List.set_cons_zero, List.set_cons_succ]
              refine wpAnyH_done (by kernel_rfl) ?_ _
              refine NoPanic.normal ?_
              go_wp2_with fail
              go_meet
              exact ⟨rfl, hQ36.nil⟩
          · go_simp
            refine (HXP.out _).mono ?_
            rintro e W37 ⟨rfl, hb⟩
            have hQ37 := HxS.next hQ34 hb
            clear hb
            go_wp2_with fail
            refine hK.out _ _ hQ37 (fun _ => ?_)
            clear hK K hQ34
            try simp only [Act.put, List.setIfInBounds_toArray, List.set_cons_zero, List.set_cons_succ]
            refine wpAnyH_ready (rs := [0]) (by kernel_rfl) (by simp) ?_
            refine AllReadyH.cons rfl (fun K hK => ?_) AllReadyH.nil
            · go_simp
              have hQ38 : HxS w n r ((W37.heap.size, arrA) :: [(b2, arrB)]) (W37.alloc (.cells #[.string ⟨#[48, 120]⟩, .string ⟨#[48, 88]⟩] 9)) := HxS.cons hQ37 arrA
              refine hK.out _ _ hQ38.tail (fun _ => ?_)
              clear hK K hQ37
              try simp only [Act.put, List.setIfInBounds_toArray, List.set_cons_zero, List.set_cons_succ]
              refine wpAnyH_turn (S' := HxS w n r ((W37.heap.size, arrA) :: [(b2, arrB)])) (fun _ h => h.tail) ?_ hQ38
              generalize W37.alloc (.cells #[.string ⟨#[48, 120]⟩, .string ⟨#[48, 88]⟩] 9) = W38 at hQ38 ⊢
              generalize W37.heap.size = b1 at hQ38 ⊢
              refine wpAnyH_take (i := 3) (oi := ⟨some 25, _, _, _, _, _⟩) (v := ?_) rfl (by kernel_rfl) (by kernel_rfl) (by kernel_rfl) (fun _ _ _ h => h) (Or.inl ⟨by rfl, ?_⟩) hQ38 ?_
              rotate_left
              · intro w hSw; clear hSw; go_simp; first | done | with_reducible rfl
              try simp only [Act.put, List.setIfInBounds_toArray, List.set_cons_zero, List.set_cons_succ]
              refine wpAnyH_take (i := 4) (oi := ⟨some 26, _, _, _, _, _⟩) (v := ?_) rfl (by kernel_rfl) (by kernel_rfl) (by kernel_rfl) (fun _ _ _ h => h) (Or.inl ⟨by rfl, ?_⟩) hQ38 ?_
              rotate_left
              · intro w hSw; have hc0 := HxS.cell hSw (List.Mem.head _) hpre; clear hSw; go_simp; first | done | with_reducible rfl
              try simp only [Act.put, List.setIfInBounds_toArray, List.set_cons_zero, List.set_cons_succ]
              refine wpAnyH_take (i := 12) (oi := ⟨some 34, _, _, _, _, _⟩) (v := ?_) rfl (by kernel_rfl) (by kernel_rfl) (by kernel_rfl) (fun _ _ _ h => h) (Or.inl ⟨by rfl, ?_⟩) hQ38 ?_
              rotate_left
              · intro w hSw; clear hSw; go_simp; first | done | with_reducible rfl
              try simp only [Act.put, List.setIfInBounds_toArray, List.set_cons_zero, List.set_cons_succ]
              refine wpAnyH_take (i := 23) (oi := ⟨some 45, _, _, _, _, _⟩) (v := ?_) rfl (by kernel_rfl) (by kernel_rfl) (by kernel_rfl) (fun _ _ _ h => h) (Or.inl ⟨by rfl, ?_⟩) hQ38 ?_
              rotate_left
              · intro w hSw; clear hSw; go_simp; first | done | with_reducible rfl
              try simp only [Act.put, List.setIfInBounds_toArray, List.set_cons_zero, List.set_cons_succ]
              refine wpAnyH_take (i := 24) (oi := ⟨some 12, _, _, _, _, _⟩) (v := ?_) rfl (by kernel_rfl) (by kernel_rfl) (by kernel_rfl) (fun _ _ _ h => h) (Or.inl ⟨by rfl, ?_⟩) hQ38 ?_
              rotate_left
              · intro w hSw; clear hSw; go_simp; first | done | with_reducible rfl
              try simp only [Act.put, List.setIfInBounds_toArray, List.set_cons_zero, List.set_cons_succ]
              refine wpAnyH_done (by kernel_rfl) ?_ _
              refine NoPanic.normal ?_
              go_wp2_with fail
              go_meet
              exact ⟨rfl, hQ38.nil⟩
    · go_simp
      have hQ39 : HxS w n r ((W0.heap.size, arrB) :: []) (W0.alloc (.cells #[.string ⟨#[112]⟩, .string ⟨#[80]⟩] 9)) := HxS.cons hHeld arrB
      refine hK.out _ _ hQ39.tail (fun _ => ?_)
      clear hK K hHeld
      try simp only [Act.put, List.setIfInBounds_toArray, List.set_cons_zero, List.set_cons_succ]
      refine wpAnyH_turn (S' := HxS w n r ((W0.heap.size, arrB) :: [])) (fun _ h => h.tail) ?_ hQ39
      generalize W0.alloc (.cells #[.string ⟨#[112]⟩, .string ⟨#[80]⟩] 9) = W39 at hQ39 ⊢
      generalize W0.heap.size = b2 at hQ39 ⊢
      refine wpAnyH_take (i := 17) (oi := ⟨some 39, _, _, _, _, _⟩) (v := ?_) rfl (by kernel_rfl) (by kernel_rfl) (by kernel_rfl) (fun _ _ _ h => h) (Or.inl ⟨by rfl, ?_⟩) hQ39 ?_
      rotate_left
      · intro w hSw; clear hSw; go_simp; first | done | with_reducible rfl
      try simp only [Act.put, List.setIfInBounds_toArray, List.set_cons_zero, List.set_cons_succ]
      refine wpAnyH_take (i := 18) (oi := ⟨some 40, _, _, _, _, _⟩) (v := ?_) rfl (by kernel_rfl) (by kernel_rfl) (by kernel_rfl) (fun _ _ _ h => h) (Or.inl ⟨by rfl, ?_⟩) hQ39 ?_
      rotate_left
      · intro w hSw; have hc0 := HxS.cell hSw (List.Mem.head _) hlet; clear hSw; go_simp; first | done | with_reducible rfl
      try simp only [Act.put, List.setIfInBounds_toArray, List.set_cons_zero, List.set_cons_succ]
      refine wpAnyH_ready (rs := [0, 9]) (by kernel_rfl) (by simp) ?_
      refine AllReadyH.cons rfl (fun K hK => ?_) (AllReadyH.cons rfl (fun K hK => ?_) AllReadyH.nil)
      · go_simp
        have hQ40 : HxS w n r ((W39.heap.size, arrA) :: [(b2, arrB)]) (W39.alloc (.cells #[.string ⟨#[48, 120]⟩, .string ⟨#[48, 88]⟩] 9)) := HxS.cons hQ39 arrA
        refine hK.out _ _ hQ40.tail (fun _ => ?_)
        clear hK K hQ39
        try simp only [Act.put, List.setIfInBounds_toArray, List.set_cons_zero, List.set_cons_succ]
        refine wpAnyH_turn (S' := HxS w n r ((W39.heap.size, arrA) :: [(b2, arrB)])) (fun _ h => h.tail) ?_ hQ40
        generalize W39.alloc (.cells #[.string ⟨#[48, 120]⟩, .string ⟨#[48, 88]⟩] 9) = W40 at hQ40 ⊢
        generalize W39.heap.size = b1 at hQ40 ⊢
        refine wpAnyH_take (i := 3) (oi := ⟨some 25, _, _, _, _, _⟩) (v := ?_) rfl (by kernel_rfl) (by kernel_rfl) (by kernel_rfl) (fun _ _ _ h => h) (Or.inl ⟨by rfl, ?_⟩) hQ40 ?_
        rotate_left
        · intro w hSw; clear hSw; go_simp; first | done | with_reducible rfl
        try simp only [Act.put, List.setIfInBounds_toArray, List.set_cons_zero, List.set_cons_succ]
        refine wpAnyH_take (i := 4) (oi := ⟨some 26, _, _, _, _, _⟩) (v := ?_) rfl (by kernel_rfl) (by kernel_rfl) (by kernel_rfl) (fun _ _ _ h => h) (Or.inl ⟨by rfl, ?_⟩) hQ40 ?_
        rotate_left
        · intro w hSw; have hc0 := HxS.cell hSw (List.Mem.head _) hpre; clear hSw; go_simp; first | done | with_reducible rfl
        try simp only [Act.put, List.setIfInBounds_toArray, List.set_cons_zero, List.set_cons_succ]
        refine wpAnyH_ready (rs := [9]) (by kernel_rfl) (by simp) ?_
        refine AllReadyH.cons rfl (fun K hK => ?_) AllReadyH.nil
        · go_simp
          refine (inBase_nd HU.out (HxS.nd hQ40)).mono ?_
          rintro e W41 ⟨rfl, hb⟩
          have hQ41 := HxS.next hQ40 hb
          clear hb
          go_wp2_with fail
          refine hK.out _ _ hQ41 (fun _ => ?_)
          clear hK K hQ40
          try simp only [Act.put, List.setIfInBounds_toArray, List.set_cons_zero, List.set_cons_succ]
          refine wpAnyH_ready (rs := [11]) (by kernel_rfl) (by simp) ?_
          refine AllReadyH.cons rfl (fun K hK => ?_) AllReadyH.nil
          · go_simp
            refine (HPT.out _).mono ?_
            rintro e W42 ⟨rfl, hb⟩
            have hQ42 := HxS.next hQ41 hb
            clear hb
            go_wp2_with fail
            refine hK.out _ _ hQ42 (fun _ => ?_)
            clear hK K hQ41
            try simp only [Act.put, List.setIfInBounds_toArray, List.set_cons_zero, List.set_cons_succ]
            refine wpAnyH_take (i := 12) (oi := ⟨some 34, _, _, _, _, _⟩) (v := ?_) rfl (by kernel_rfl) (by kernel_rfl) (by kernel_rfl) (fun _ _ _ h => h) (Or.inl ⟨by rfl, ?_⟩) hQ42 ?_
            rotate_left
            · intro w hSw; clear hSw; go_simp; first | done | with_reducible rfl
            try simp only [Act.put, List.setIfInBounds_toArray, List.set_cons_zero, List.set_cons_succ]
            refine wpAnyH_ready (rs := [22]) (by kernel_rfl) (by simp) ?_
            refine AllReadyH.cons rfl (fun K hK => ?_) AllReadyH.nil
            · go_simp
              refine (HXP.out _).mono ?_
              rintro e W43 ⟨rfl, hb⟩
              have hQ43 := HxS.next hQ42 hb
              clear hb
              go_wp2_with fail
              refine hK.out _ _ hQ43 (fun _ => ?_)
              clear hK K hQ42
              try simp only [Act.put, List.setIfInBounds_toArray, List.set_cons_zero, List.set_cons_succ]
              refine wpAnyH_take (i := 23) (oi := ⟨some 45, _, _, _, _, _⟩) (v := ?_) rfl (by kernel_rfl) (by kernel_rfl) (by kernel_rfl) (fun _ _ _ h => h) (Or.inl ⟨by rfl, ?_⟩) hQ43 ?_
              rotate_left
              · intro w hSw; clear hSw; go_simp; first | done | with_reducible rfl
              try simp only [Act.put, List.setIfInBounds_toArray, List.set_cons_zero, List.set_cons_succ]
              refine wpAnyH_take (i := 24) (oi := ⟨some 12, _, _, _, _, _⟩) (v := ?_) rfl (by kernel_rfl) (by kernel_rfl) (by kernel_rfl) (fun _ _ _ h => h) (Or.inl ⟨by rfl, ?_⟩) hQ43 ?_
              rotate_left
              · intro w hSw; clear hSw; go_simp; first | done | with_reducible rfl
              try simp only [Act.put, List.setIfInBounds_toArray, List.set_cons_zero, List.set_cons_succ]
              refine wpAnyH_done (by kernel_rfl) ?_ _
              refine NoPanic.normal ?_
              go_wp2_with fail
              go_meet
              exact ⟨rfl, hQ43.nil⟩
      · go_simp
        refine (inBase_nd HU.out (HxS.nd hQ39)).mono ?_
        rintro e W44 ⟨rfl, hb⟩
        have hQ44 := HxS.next hQ39 hb
        clear hb
        go_wp2_with fail
        refine hK.out _ _ hQ44 (fun _ => ?_)
        clear hK K hQ39
        try simp only [Act.put, List.setIfInBounds_toArray, List.set_cons_zero, List.set_cons_succ]
        refine wpAnyH_ready (rs := [0, 11]) (by kernel_rfl) (by simp) ?_
        refine AllReadyH.cons rfl (fun K hK => ?_) (AllReadyH.cons rfl (fun K hK => ?_) AllReadyH.nil)
        · go_simp
          have hQ45 : HxS w n r ((W44.heap.size, arrA) :: [(b2, arrB)]) (W44.alloc (.cells #[.string ⟨#[48, 120]⟩, .string ⟨#[48, 88]⟩] 9)) := HxS.cons hQ44 arrA
          refine hK.out _ _ hQ45.tail (fun _ => ?_)
          clear hK K hQ44
          try simp only [Act.put, List.setIfInBounds_toArray, List.set_cons_zero, List.set_cons_succ]
          refine wpAnyH_turn (S' := HxS w n r ((W44.heap.size, arrA) :: [(b2, arrB)])) (fun _ h => h.tail) ?_ hQ45
          generalize W44.alloc (.cells #[.string ⟨#[48, 120]⟩, .string ⟨#[48, 88]⟩] 9) = W45 at hQ45 ⊢
          generalize W44.heap.size = b1 at hQ45 ⊢
          refine wpAnyH_take (i := 3) (oi := ⟨some 25, _, _, _, _, _⟩) (v := ?_) rfl (by kernel_rfl) (by kernel_rfl) (by kernel_rfl) (fun _ _ _ h => h) (Or.inl ⟨by rfl, ?_⟩) hQ45 ?_
          rotate_left
          · intro w hSw; clear hSw; go_simp; first | done | with_reducible rfl
          try simp only [Act.put, List.setIfInBounds_toArray, List.set_cons_zero, List.set_cons_succ]
          refine wpAnyH_take (i := 4) (oi := ⟨some 26, _, _, _, _, _⟩) (v := ?_) rfl (by kernel_rfl) (by kernel_rfl) (by kernel_rfl) (fun _ _ _ h => h) (Or.inl ⟨by rfl, ?_⟩) hQ45 ?_
          rotate_left
          · intro w hSw; have hc0 := HxS.cell hSw (List.Mem.head _) hpre; clear hSw; go_simp; first | done | with_reducible rfl
          try simp only [Act.put, List.setIfInBounds_toArray, List.set_cons_zero, List.set_cons_succ]
          refine wpAnyH_ready (rs := [11]) (by kernel_rfl) (by simp) ?_
          refine AllReadyH.cons rfl (fun K hK => ?_) AllReadyH.nil
          · go_simp
            refine (HPT.out _).mono ?_
            rintro e W46 ⟨rfl, hb⟩
            have hQ46 := HxS.next hQ45 hb
            clear hb
            go_wp2_with fail
            refine hK.out _ _ hQ46 (fun _ => ?_)
            clear hK K hQ45
            try simp only [Act.put, List.setIfInBounds_toArray, List.set_cons_zero, List.set_cons_succ]
            refine wpAnyH_take (i := 12) (oi := ⟨some 34, _, _, _, _, _⟩) (v := ?_) rfl (by kernel_rfl) (by kernel_rfl) (by kernel_rfl) (fun _ _ _ h => h) (Or.inl ⟨by rfl, ?_⟩) hQ46 ?_
            rotate_left
            · intro w hSw; clear hSw; go_simp; first | done | with_reducible rfl
            try simp only [Act.put, List.setIfInBounds_toArray, List.set_cons_zero, List.set_cons_succ]
            refine wpAnyH_ready (rs := [22]) (by kernel_rfl) (by simp) ?_
            refine AllReadyH.cons rfl (fun K hK => ?_) AllReadyH.nil
            · go_simp
              refine (HXP.out _).mono ?_
              rintro e W47 ⟨rfl, hb⟩
              have hQ47 := HxS.next hQ46 hb
              clear hb
              go_wp2_with fail
              refine hK.out _ _ hQ47 (fun _ => ?_)
              clear hK K hQ46
              try simp only [Act.put, List.setIfInBounds_toArray, List.set_cons_zero, List.set_cons_succ]
              refine wpAnyH_take (i := 23) (oi := ⟨some 45, _, _, _, _, _⟩) (v := ?_) rfl (by kernel_rfl) (by kernel_rfl) (by kernel_rfl) (fun _ _ _ h => h) (Or.inl ⟨by rfl, ?_⟩) hQ47 ?_
              rotate_left
              · intro w hSw; clear hSw; go_simp; first | done | with_reducible rfl
              try simp only [Act.put, List.setIfInBounds_toArray, List.set_cons_zero, List.set_cons_succ]
              refine wpAnyH_take (i := 24) (oi := ⟨some 12, _, _, _, _, _⟩) (v := ?_) rfl (by kernel_rfl) (by kernel_rfl) (by kernel_rfl) (fun _ _ _ h => h) (Or.inl ⟨by rfl, ?_⟩) hQ47 ?_
              rotate_left
              · intro w hSw; clear hSw; go_simp; first | done | with_reducible rfl
              try simp only [Act.put, List.setIfInBounds_toArray, List.set_cons_zero, List.set_cons_succ]
              refine wpAnyH_done (by kernel_rfl) ?_ _
              refine NoPanic.normal ?_
              go_wp2_with fail
              go_meet
              exact ⟨rfl, hQ47.nil⟩
        · go_simp
          refine (HPT.out _).mono ?_
          rintro e W48 ⟨rfl, hb⟩
          have hQ48 := HxS.next hQ44 hb
          clear hb
          go_wp2_with fail
          refine hK.out _ _ hQ48 (fun _ => ?_)
          clear hK K hQ44
          try simp only [Act.put, List.setIfInBounds_toArray, List.set_cons_zero, List.set_cons_succ]
          refine wpAnyH_ready (rs := [0, 22]) (by kernel_rfl) (by simp) ?_
          refine AllReadyH.cons rfl (fun K hK => ?_) (AllReadyH.cons rfl (fun K hK => ?_) AllReadyH.nil)
          · go_simp
            have hQ49 : HxS w n r ((W48.heap.size, arrA) :: [(b2, arrB)]) (W48.alloc (.cells #[.string ⟨#[48, 120]⟩, .string ⟨#[48, 88]⟩] 9)) := HxS.cons hQ48 arrA
            refine hK.out _ _ hQ49.tail (fun _ => ?_)
            clear hK K hQ48
            try simp only [Act.put, List.setIfInBounds_toArray, List.set_cons_zero, List.set_cons_succ]
            refine wpAnyH_turn (S' := HxS w n r ((W48.heap.size, arrA) :: [(b2, arrB)])) (fun _ h => h.tail) ?_ hQ49
            generalize W48.alloc (.cells #[.string ⟨#[48, 120]⟩, .string ⟨#[48, 88]⟩] 9) = W49 at hQ49 ⊢
            generalize W48.heap.size = b1 at hQ49 ⊢
            refine wpAnyH_take (i := 3) (oi := ⟨some 25, _, _, _, _, _⟩) (v := ?_) rfl (by kernel_rfl) (by kernel_rfl) (by kernel_rfl) (fun _ _ _ h => h) (Or.inl ⟨by rfl, ?_⟩) hQ49 ?_
            rotate_left
            · intro w hSw; clear hSw; go_simp; first | done | with_reducible rfl
            try simp only [Act.put, List.setIfInBounds_toArray, List.set_cons_zero, List.set_cons_succ]
            refine wpAnyH_take (i := 4) (oi := ⟨some 26, _, _, _, _, _⟩) (v := ?_) rfl (by kernel_rfl) (by kernel_rfl) (by kernel_rfl) (fun _ _ _ h => h) (Or.inl ⟨by rfl, ?_⟩) hQ49 ?_
            rotate_left
            · intro w hSw; have hc0 := HxS.cell hSw (List.Mem.head _) hpre; clear hSw; go_simp; first | done | with_reducible rfl
            try simp only [Act.put, List.setIfInBounds_toArray, List.set_cons_zero, List.set_cons_succ]
            refine wpAnyH_take (i := 12) (oi := ⟨some 34, _, _, _, _, _⟩) (v := ?_) rfl (by kernel_rfl) (by kernel_rfl) (by kernel_rfl) (fun _ _ _ h => h) (Or.inl ⟨by rfl, ?_⟩) hQ49 ?_
            rotate_left
            · intro w hSw; clear hSw; go_simp; first | done | with_reducible rfl
            try simp only [Act.put, List.setIfInBounds_toArray, List.set_cons_zero, List.set_cons_succ]
            refine wpAnyH_ready (rs := [22]) (by kernel_rfl) (by simp) ?_
            refine AllReadyH.cons rfl (fun K hK => ?_) AllReadyH.nil
            · go_simp
              refine (HXP.out _).mono ?_
              rintro e W50 ⟨rfl, hb⟩
              have hQ50 := HxS.next hQ49 hb
              clear hb
              go_wp2_with fail
              refine hK.out _ _ hQ50 (fun _ => ?_)
              clear hK K hQ49
              try simp only [Act.put, List.setIfInBounds_toArray, List.set_cons_zero, List.set_cons_succ]
              refine wpAnyH_take (i := 23) (oi := ⟨some 45, _, _, _, _, _⟩) (v := ?_) rfl (by kernel_rfl) (by kernel_rfl) (by kernel_rfl) (fun _ _ _ h => h) (Or.inl ⟨by rfl, ?_⟩) hQ50 ?_
              rotate_left
              · intro w hSw; clear hSw; go_simp; first | done | with_reducible rfl
              try simp only [Act.put, List.setIfInBounds_toArray, List.set_cons_zero, List.set_cons_succ]
              refine wpAnyH_take (i := 24) (oi := ⟨some 12, _, _, _, _, _⟩) (v := ?_) rfl (by kernel_rfl) (by kernel_rfl) (by kernel_rfl) (fun _ _ _ h => h) (Or.inl ⟨by rfl, ?_⟩) hQ50 ?_
              rotate_left
              · intro w hSw; clear hSw; go_simp; first | done | with_reducible rfl
              try simp only [Act.put, List.setIfInBounds_toArray, List.set_cons_zero, List.set_cons_succ]
              refine wpAnyH_done (by kernel_rfl) ?_ _
              refine NoPanic.normal ?_
              go_wp2_with fail
              go_meet
              exact ⟨rfl, hQ50.nil⟩
          · go_simp
            refine (HXP.out _).mono ?_
            rintro e W51 ⟨rfl, hb⟩
            have hQ51 := HxS.next hQ48 hb
            clear hb
            go_wp2_with fail
            refine hK.out _ _ hQ51 (fun _ => ?_)
            clear hK K hQ48
            try simp only [Act.put, List.setIfInBounds_toArray, List.set_cons_zero, List.set_cons_succ]
            refine wpAnyH_ready (rs := [0]) (by kernel_rfl) (by simp) ?_
            refine AllReadyH.cons rfl (fun K hK => ?_) AllReadyH.nil
            · go_simp
              have hQ52 : HxS w n r ((W51.heap.size, arrA) :: [(b2, arrB)]) (W51.alloc (.cells #[.string ⟨#[48, 120]⟩, .string ⟨#[48, 88]⟩] 9)) := HxS.cons hQ51 arrA
              refine hK.out _ _ hQ52.tail (fun _ => ?_)
              clear hK K hQ51
              try simp only [Act.put, List.setIfInBounds_toArray, List.set_cons_zero, List.set_cons_succ]
              refine wpAnyH_turn (S' := HxS w n r ((W51.heap.size, arrA) :: [(b2, arrB)])) (fun _ h => h.tail) ?_ hQ52
              generalize W51.alloc (.cells #[.string ⟨#[48, 120]⟩, .string ⟨#[48, 88]⟩] 9) = W52 at hQ52 ⊢
              generalize W51.heap.size = b1 at hQ52 ⊢
              refine wpAnyH_take (i := 3) (oi := ⟨some 25, _, _, _, _, _⟩) (v := ?_) rfl (by kernel_rfl) (by kernel_rfl) (by kernel_rfl) (fun _ _ _ h => h) (Or.inl ⟨by rfl, ?_⟩) hQ52 ?_
              rotate_left
              · intro w hSw; clear hSw; go_simp; first | done | with_reducible rfl
              try simp only [Act.put, List.setIfInBounds_toArray, List.set_cons_zero, List.set_cons_succ]
              refine wpAnyH_take (i := 4) (oi := ⟨some 26, _, _, _, _, _⟩) (v := ?_) rfl (by kernel_rfl) (by kernel_rfl) (by kernel_rfl) (fun _ _ _ h => h) (Or.inl ⟨by rfl, ?_⟩) hQ52 ?_
              rotate_left
              · intro w hSw; have hc0 := HxS.cell hSw (List.Mem.head _) hpre; clear hSw; go_simp; first | done | with_reducible rfl
              try simp only [Act.put, List.setIfInBounds_toArray, List.set_cons_zero, List.set_cons_succ]
              refine wpAnyH_take (i := 12) (oi := ⟨some 34, _, _, _, _, _⟩) (v := ?_) rfl (by kernel_rfl) (by kernel_rfl) (by kernel_rfl) (fun _ _ _ h => h) (Or.inl ⟨by rfl, ?_⟩) hQ52 ?_
              rotate_left
              · intro w hSw; clear hSw; go_simp; first | done | with_reducible rfl
              try simp only [Act.put, List.setIfInBounds_toArray, List.set_cons_zero, List.set_cons_succ]
              refine wpAnyH_take (i := 23) (oi := ⟨some 45, _, _, _, _, _⟩) (v := ?_) rfl (by kernel_rfl) (by kernel_rfl) (by kernel_rfl) (fun _ _ _ h => h) (Or.inl ⟨by rfl, ?_⟩) hQ52 ?_
              rotate_left
              · intro w hSw; clear hSw; go_simp; first | done | with_reducible rfl
              try simp only [Act.put, List.setIfInBounds_toArray, List.set_cons_zero, List.set_cons_succ]
              refine wpAnyH_take (i := 24) (oi := ⟨some 12, _, _, _, _, _⟩) (v := ?_) rfl (by kernel_rfl) (by kernel_rfl) (by kernel_rfl) (fun _ _ _ h => h) (Or.inl ⟨by rfl, ?_⟩) hQ52 ?_
              rotate_left
              · intro w hSw; clear hSw; go_simp; first | done | with_reducible rfl
              try simp only [Act.put, List.setIfInBounds_toArray, List.set_cons_zero, List.set_cons_succ]
              refine wpAnyH_done (by kernel_rfl) ?_ _
              refine NoPanic.normal ?_
              go_wp2_with fail
              go_meet
              exact ⟨rfl, hQ52.nil⟩
  case rest =>
    obtain ⟨rfl, hx0⟩ := hcut
    clear hf1 hf2 hup' hpl' hpre hlet hi1b hi2b hz1 hz2 hz3
    have HXS := Aside0.mk hx0
    obtain ⟨hfig, hpv, hpz, hp0, hp1, hlz, hlc, hE, hxb, hq20, huz, huz2⟩ := HI.out
    have hus : (zs (q - u0.size) ++ u0).size = (q - u0.size) + u0.size := by rw [ByteArray.size_append, zs_size]
    have hpvu : pv 16 (zs (q - u0.size) ++ u0) (zs (q - u0.size) ++ u0).size = n := by
      rw [hus, pv_zs _ _ _ (Nat.le_refl _)]; exact hpv
    have hhex := hexT_of pre (zs (q - u0.size) ++ u0) lt sg t q x pa hpz hp0 hp1 (by omega) (by omega) (by omega) (figs_zs _ _ hfig) hlz hlc hE hxb.1 hxb.2
    rw [hpvu, ← HTT.out, ← HXX.out] at hhex
    obtain ⟨E, hEE⟩ : ∃ E, E = x - 4 * (q : Int) := ⟨_, rfl⟩
    have hqu : q ≤ (zs (q - u0.size) ++ u0).size := by omega
    have hEb : -1400 ≤ E ∧ E ≤ 1000 := by omega
    have hlf := fun W hev => mfl_hex hhex HN.out W hev
    rw [show x + ((((zs (q - u0.size) ++ u0).size - q : Nat) : Int) - ((zs (q - u0.size) ++ u0).size : Nat)) * 4 = E by omega] at hlf
    have hl1 : 1 < w.heap.size := World.block_lt_of_cell? _ _ HEV.out
    have hwl : w.heap.size ≤ wc.heap.size := hx0.1.size
    have hevc : Eof wc pa := HEV.out.below hx0.1 hl1
    have HLF := Aside0.mk (lit_float (hD_pos (V := n) (E := E)) (by have := hN_len (B := 18446744073709551616) (c := 1) (by decide) (V := n) (by have := HN.out; omega) hEb; omega) (by have := hD_len (B := 18446744073709551616) (V := n) (by decide) hEb; omega) wc (fun W hb => hlf W (hevc.below hb (by omega))))
    have HNE := Aside0.mk (And.intro hEE (And.intro hEb (And.intro hxb hq20)))
    clear hfig hpv hpz hp0 hp1 hlz hlc hE hxb hq20 huz huz2 hus hpvu hhex hEE hqu hEb hlf hl1 hwl hevc hx0
    go_wp2_with fail
    refine HLF.out.mono ?_
    rintro e w2 ⟨A, c, B, c2, rfl, hc, hc2, hCA, hCB, hb2⟩
    have HW := Aside0.mk (whole_nd n r w2 (HXS.out.nd.below hb2))
    have H2 := Aside0.mk (And.intro hc (And.intro hc2 (And.intro hCA (And.intro hCB (below_step HXS.out.1 hb2)))))
    clear hc hc2 hCA hCB hb2 HLF
    go_wp2_with fail
    refine HW.out.mono ?_
    rintro e w3 ⟨vW, rfl, hrW, hb3⟩
    have HP := Aside0.mk (pow16 q HNE.out.2.2.2 w3)
    have HWQ := Lib.hid (show wrap64 (-(q : Int)) = -(q : Int) from w64 (by have := HNE.out.2.2.2; omega) (by omega))
    have H3 := Aside0.mk (And.intro hrW hb3)
    clear hrW hb3 HW
    go_wp2_with fail
    rw [HWQ.out]
    refine HP.out.mono ?_
    rintro e w4 ⟨vP, rfl, hrP, hb4⟩
    have HX := Aside0.mk (powX x HNE.out.2.2.1.1 HNE.out.2.2.1.2 w4)
    have H4 := Aside0.mk (And.intro hrP hb4)
    clear hrP hb4 HP
    go_wp2_with fail
    refine HX.out.mono ?_
    rintro e w5 ⟨vX, rfl, hrX, hb5⟩
    have HT1 := Aside0.mk (times1 q x HNE.out.2.2.2 HNE.out.2.2.1.1 HNE.out.2.2.1.2 vP vX w5 (H4.out.1.below hb5) hrX)
    have H5 := Aside0.mk (And.intro hrX hb5)
    clear hrX hb5 HX
    go_wp2_with fail
    refine HT1.out.mono ?_
    rintro e w6 ⟨vT, rfl, hrT, hb6⟩
    have HT2 := Aside0.mk (times2 n q x E HN.out HNE.out.2.2.2 HNE.out.2.2.1.1 HNE.out.2.2.1.2 HNE.out.1 vW vT w6 (((H3.out.1.below H4.out.2).below H5.out.2).below hb6) hrT)
    have H6 := Aside0.mk hb6
    clear hrT hb6 HT1
    go_wp2_with fail
    refine HT2.out.mono ?_
    rintro e w7 ⟨vU, rfl, hrU, hb7⟩
    have hCA7 := Kd.C_below (Kd.C_below (Kd.C_below (Kd.C_below (Kd.C_below H2.out.2.2.1 H3.out.2) H4.out.2) H5.out.2) H6.out) hb7
    have hCB7 := Kd.C_below (Kd.C_below (Kd.C_below (Kd.C_below (Kd.C_below H2.out.2.2.2.1 H3.out.2) H4.out.2) H5.out.2) H6.out) hb7
    have HB7 := Aside0.mk (below_step (below_step (below_step (below_step (below_step H2.out.2.2.2.2 H3.out.2) H4.out.2) H5.out.2) H6.out) hb7)
    have hn64 : n < 18446744073709551616 ^ 1 := by have := HN.out; omega
    have HIF := Aside0.mk (isFloat_nd (hN n E) (hD n E) hD_pos h_cop A c B c2 vU w7 hCA7 H2.out.1 hCB7 H2.out.2.1 hrU
      (by have := hN_len (by decide) hn64 HNE.out.2.1; omega) (by have := hD_len (B := 18446744073709551616) (V := n) (by decide) HNE.out.2.1; omega)
      (by have := hN_len (by decide) (pow_c n HN.out) HNE.out.2.1; omega) (by have := hD_len (B := 65536) (V := n) (by decide) HNE.out.2.1; omega))
    clear hCA7 hCB7 hrU hb7 hn64 HT2
    go_wp2_with fail
    refine HIF.out.mono ?_
    rintro e w8 ⟨rfl, hb8⟩
    have HB8 := Aside0.mk (below_step HB7.out hb8)
    clear hb8
    go_wp2_with fail
    go_ret
    exact ⟨rfl, HB8.out⟩
end Go.Proofs.YtgpoplfgngiilaaGreatDoor
