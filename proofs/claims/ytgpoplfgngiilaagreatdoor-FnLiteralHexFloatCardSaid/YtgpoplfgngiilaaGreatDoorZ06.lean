/- Digits of natural numbers: what a list of digits counts to, and the one list without a 0 at its end that counts to it. What the reference's trim, Small, Of and Words answer. What the reference's Words and HasWords answer. What the reference's Cmp, same, byDigit answer. What the reference's InBase and Hex answer. Small lemmas for the walks: functions with four and five results; what a call leaves. Functions of the program as Lean functions, and that the Go code comes to their answers (the kit's print.py wrote it; cut into this file by pieces.py): bigall_pow. -/
import Derived.Test.YtgpoplfgngiilaaGreatDoorZ03
import Derived.Test.YtgpoplfgngiilaaGreatDoorZ04
import Derived.Test.YtgpoplfgngiilaaGreatDoorZ05
import Derived.Laws.BitsAllLaws
import Derived.WalkSpells
import Derived.WalkLawsBesides
import Derived.Handy
import Derived.Lib.Hide
set_option linter.unusedVariables false
set_option linter.unusedSimpArgs false
namespace Go.Proofs.YtgpoplfgngiilaaGreatDoor.Pl
open Go.RowKit Go.Proofs.YtgpoplfgngiilaaGreatDoorW.PrintWords

/-- What the digits count to, the lowest first. -/
def val (B : Int) : List Int → Int
  | [] => 0
  | x :: xs => x + B * val B xs

def Dg (B : Int) (xs : List Int) : Prop := ∀ x ∈ xs, 0 ≤ x ∧ x < B

/-- No digit 0 at the end. -/
def Top (xs : List Int) : Prop := xs.getLast? ≠ some 0

theorem val_nil (B : Int) : val B [] = 0 := rfl
theorem val_cons (B x : Int) (xs : List Int) : val B (x :: xs) = x + B * val B xs := rfl

theorem val_append (B : Int) (xs ys : List Int) : val B (xs ++ ys) = val B xs + B ^ xs.length * val B ys := by
  induction xs with
  | nil => simp [val]
  | cons x xs ih => rw [List.cons_append, val_cons, ih, val_cons, List.length_cons]; grind

theorem Dg_nil (B : Int) : Dg B [] := fun _ h => by simp at h
theorem Dg_cons {B x : Int} {xs : List Int} : Dg B (x :: xs) ↔ (0 ≤ x ∧ x < B) ∧ Dg B xs := by simp [Dg]
theorem Dg_append {B : Int} {xs ys : List Int} : Dg B (xs ++ ys) ↔ Dg B xs ∧ Dg B ys := by
  simp only [Dg, List.mem_append]
  exact ⟨fun h => ⟨fun x hx => h x (.inl hx), fun x hx => h x (.inr hx)⟩, fun h x hx => hx.elim (h.1 x) (h.2 x)⟩
theorem Dg_take {B : Int} {xs : List Int} (h : Dg B xs) (i : Nat) : Dg B (xs.take i) := fun x hx => h x (List.mem_of_mem_take hx)

theorem val_range {B : Int} (hB : 0 < B) {xs : List Int} (h : Dg B xs) : 0 ≤ val B xs ∧ val B xs < B ^ xs.length := by
  induction xs with
  | nil => simp [val]
  | cons x xs ih =>
    obtain ⟨⟨h0, h1⟩, h2⟩ := Dg_cons.1 h
    obtain ⟨i0, i1⟩ := ih h2
    rw [val_cons, List.length_cons, Int.pow_succ]
    have e1 : 0 ≤ B * val B xs := Int.mul_nonneg (by omega) i0
    have e2 : B * (val B xs + 1) ≤ B * B ^ xs.length := Int.mul_le_mul_of_nonneg_left (by omega) (by omega)
    rw [Int.mul_add] at e2
    have e3 : B * B ^ xs.length = B ^ xs.length * B := Int.mul_comm _ _
    omega

/-- The one list. -/
def figs (B : Nat) (n : Nat) : List Int := if h : n = 0 ∨ B < 2 then [] else ((n % B : Nat) : Int) :: figs B (n / B)
termination_by n
decreasing_by exact Nat.div_lt_self (by omega) (by omega)

theorem figs_zero (B : Nat) : figs B 0 = [] := by rw [figs]; simp
theorem figs_pos {B n : Nat} (hB : 2 ≤ B) (hn : 0 < n) : figs B n = ((n % B : Nat) : Int) :: figs B (n / B) := by rw [figs]; rw [dif_neg (by omega)]

theorem figs_val {B : Nat} (hB : 2 ≤ B) (n : Nat) : val B (figs B n) = n := by
  induction n using Nat.strongRecOn with
  | _ n ih =>
    rcases Nat.eq_zero_or_pos n with rfl | hn
    · rw [figs_zero]; rfl
    · rw [figs_pos hB hn, val_cons, ih _ (Nat.div_lt_self hn (by omega))]
      have := Nat.mod_add_div n B
      exact_mod_cast this

theorem figs_Dg {B : Nat} (hB : 2 ≤ B) (n : Nat) : Dg B (figs B n) := by
  induction n using Nat.strongRecOn with
  | _ n ih =>
    rcases Nat.eq_zero_or_pos n with rfl | hn
    · rw [figs_zero]; exact Dg_nil _
    · rw [figs_pos hB hn, Dg_cons]
      have := Nat.mod_lt n (show 0 < B by omega)
      exact ⟨by omega, ih _ (Nat.div_lt_self hn (by omega))⟩

theorem figs_ne {B : Nat} (hB : 2 ≤ B) {n : Nat} (hn : 0 < n) : figs B n ≠ [] := by rw [figs_pos hB hn]; exact List.cons_ne_nil _ _

theorem figs_Top {B : Nat} (hB : 2 ≤ B) (n : Nat) : Top (figs B n) := by
  induction n using Nat.strongRecOn with
  | _ n ih =>
    rcases Nat.eq_zero_or_pos n with rfl | hn
    · rw [figs_zero]; simp [Top]
    · rw [figs_pos hB hn]
      rcases Nat.eq_zero_or_pos (n / B) with h0 | hp
      · rw [h0, figs_zero]
        have hlt : n < B := by
          rcases Nat.lt_or_ge n B with h | h
          · exact h
          · have := Nat.div_pos h (show 0 < B by omega)
            rw [h0] at this
            exact absurd this (by decide)
        rw [Nat.mod_eq_of_lt hlt]
        have h1 : (n : Int) ≠ 0 := by omega
        unfold Top
        rw [List.getLast?_singleton]
        intro he
        exact h1 (Option.some.inj he)
      · have := ih (n / B) (Nat.div_lt_self hn (by omega))
        unfold Top at this ⊢
        rw [List.getLast?_cons_of_ne_nil (figs_ne hB hp)]
        exact this

theorem figs_uniq {B : Nat} (hB : 2 ≤ B) {xs : List Int} (h : Dg B xs) (ht : Top xs) : xs = figs B (val B xs).toNat := by
  induction xs with
  | nil => rw [val_nil]; simp [figs_zero]
  | cons x xs ih =>
    obtain ⟨⟨h0, h1⟩, h2⟩ := Dg_cons.1 h
    obtain ⟨i0, _⟩ := val_range (by omega) h2
    have htx : Top xs := by
      rcases List.eq_nil_or_concat xs with rfl | ⟨ys, y, rfl⟩
      · simp [Top]
      · simpa [Top, List.getLast?_cons_of_ne_nil] using ht
    have ih := ih h2 htx
    have hv : (val B (x :: xs)).toNat = x.toNat + B * (val B xs).toNat := by
      rw [val_cons]
      obtain ⟨v, hv⟩ := Int.eq_ofNat_of_zero_le i0
      obtain ⟨u, hu⟩ := Int.eq_ofNat_of_zero_le h0
      rw [hv, hu]
      have e : (u : Int) + (B : Int) * (v : Int) = ((u + B * v : Nat) : Int) := by push_cast; rfl
      rw [e, Int.toNat_natCast, Int.toNat_natCast, Int.toNat_natCast]
    have hpos : 0 < x.toNat + B * (val B xs).toNat := by
      rcases Nat.eq_zero_or_pos (x.toNat + B * (val B xs).toNat) with h | h
      · exfalso
        have hx0 : x = 0 := by omega
        have hv0 : B * (val B xs).toNat = 0 := by omega
        have hv1 : (val B xs).toNat = 0 := by
          rcases Nat.mul_eq_zero.1 hv0 with h | h
          · omega
          · exact h
        rw [hv1, figs_zero] at ih
        subst ih
        subst hx0
        simp [Top] at ht
      · exact h
    rw [hv, figs_pos hB hpos, Nat.add_mul_mod_self_left, Nat.mod_eq_of_lt (by omega), Nat.add_mul_div_left _ _ (by omega), Nat.div_eq_of_lt (by omega), Nat.zero_add, ← ih]
    congr 1
    omega

theorem figs_length_le {B : Nat} (hB : 2 ≤ B) : ∀ (m n : Nat), n < B ^ m → (figs B n).length ≤ m
  | 0, n, h => by
    have : n = 0 := by simpa using h
    subst this
    simp [figs_zero]
  | m + 1, n, h => by
    rcases Nat.eq_zero_or_pos n with rfl | hn
    · simp [figs_zero]
    · rw [figs_pos hB hn, List.length_cons]
      have := figs_length_le hB m (n / B) (by rw [Nat.pow_succ] at h; exact Nat.div_lt_of_lt_mul (by rw [Nat.mul_comm]; exact h))
      omega

theorem figs_one {B n : Nat} (hB : 2 ≤ B) (hn : 0 < n) (h : n < B) : figs B n = [(n : Int)] := by
  rw [figs_pos hB hn, Nat.mod_eq_of_lt h, Nat.div_eq_of_lt h, figs_zero]

theorem rd_take {xs : List Int} {i : Nat} (h : i < xs.length) : xs.take (i + 1) = xs.take i ++ [xs.getD i 0] := by
  rw [List.take_add_one, List.getD_eq_getElem?_getD]
  simp [List.getElem?_eq_getElem h]

theorem val_set {B : Int} (xs : List Int) (j : Nat) (y : Int) (h : j < xs.length) : val B (xs.set j y) = val B xs + (y - xs.getD j 0) * B ^ j := by
  induction xs generalizing j with
  | nil => simp at h
  | cons x xs ih =>
    cases j with
    | zero => simp [val]; grind
    | succ j =>
      rw [List.set_cons_succ, val_cons, ih j (by simpa using h), val_cons, Int.pow_succ]
      simp only [List.getD_cons_succ]
      grind

theorem Dg_set {B : Int} {xs : List Int} (h : Dg B xs) (j : Nat) {y : Int} (hy : 0 ≤ y ∧ y < B) : Dg B (xs.set j y) := by
  intro x hx
  rcases List.mem_or_eq_of_mem_set hx with h1 | h1
  · exact h x h1
  · subst h1; exact hy

theorem Dg_get {B : Int} (hB : 0 < B) {xs : List Int} (h : Dg B xs) (j : Nat) : 0 ≤ xs.getD j 0 ∧ xs.getD j 0 < B := by
  rcases Nat.lt_or_ge j xs.length with hj | hj
  · rw [List.getD_eq_getElem?_getD, List.getElem?_eq_getElem hj]
    exact h _ (List.getElem_mem hj)
  · rw [List.getD_eq_getElem?_getD, List.getElem?_eq_none hj]
    exact ⟨Int.le_refl _, hB⟩
end Go.Proofs.YtgpoplfgngiilaaGreatDoor.Pl

namespace Go.Proofs.YtgpoplfgngiilaaGreatDoor.Pl
open Go.RowKit Go.Proofs.YtgpoplfgngiilaaGreatDoorW.PrintWords Go.Proofs.YtgpoplfgngiilaaGreatDoorW.PrintLast Go.Proofs.YtgpoplfgngiilaaGreatDoorW.PrintMore PAll

theorem w64 {n : Int} (h0 : -9223372036854775808 ≤ n) (h1 : n < 9223372036854775808) : wrap64 n = n := by unfold wrap64; omega
theorem wu64 {n : Int} (h0 : 0 ≤ n) (h1 : n < 18446744073709551616) : IntKind.u64.wrap n = n := by simp [IntKind.wrap, IntKind.bits, IntKind.signed]; omega

theorem snoc (xs : List Int) : xs = [] ∨ ∃ ys y, xs = ys ++ [y] := by
  rcases List.eq_nil_or_concat xs with h | ⟨ys, y, h⟩
  · exact .inl h
  · exact .inr ⟨ys, y, by rw [h, List.concat_eq_append]⟩

theorem trim_law : ∀ (m : Nat) (xs : List Int), xs.length = m → m < 4611686018427387904 → Dg (65536 : Nat) xs → Ev (fun k => spec_trim.l0 k xs) (figs 65536 (val (65536 : Nat) xs).toNat)
  | m, xs, hl, hm, hd => by
    rcases snoc xs with rfl | ⟨ys, y, rfl⟩
    · refine Ev.step (f := fun k => some (figs 65536 (val (65536 : Nat) []).toNat)) (fun k => ?_) (Ev.now _)
      simp [spec_trim.l0, val, figs_zero]
    · have hlen : (ys ++ [y]).length = ys.length + 1 := by simp
      have hw : wrap64 (((ys ++ [y]).length : Int) - 1) = (ys.length : Int) := by rw [hlen, w64] <;> omega
      have hrd : rd (ys ++ [y]) (ys.length : Int) = y := by simp [rd]
      by_cases hy : y = 0
      · subst hy
        have hlt : ys.length < m := by omega
        have ih := trim_law ys.length ys rfl (by omega) (Dg_append.1 hd).1
        have hv : val (65536 : Nat) (ys ++ [0]) = val (65536 : Nat) ys := by rw [val_append]; simp [val]
        rw [hv]
        refine Ev.step (fun k => ?_) ih
        simp only [spec_trim.l0]
        rw [hw, hrd, if_pos (by omega), if_pos (by omega), if_pos (by omega), if_pos rfl, if_pos (by omega)]
        simp
      · have hc := figs_uniq (B := 65536) (by omega) hd (by simp [Top, hy])
        rw [← hc]
        refine Ev.step (f := fun k => some (ys ++ [y])) (fun k => ?_) (Ev.now _)
        simp only [spec_trim.l0]
        rw [hw, hrd, if_pos (by omega), if_pos (by omega), if_pos (by omega), if_neg hy]
termination_by m => m

theorem trim_f (xs : List Int) (hm : xs.length < 4611686018427387904) (hd : Dg (65536 : Nat) xs) : Ev (fun k => spec_trim.f k xs) (figs 65536 (val (65536 : Nat) xs).toNat) := trim_law _ xs rfl hm hd

/-! Small -/
theorem w64' {n m : Int} (h : n = m) (h0 : -9223372036854775808 ≤ m) (h1 : m < 9223372036854775808) : wrap64 n = m := by rw [h]; exact w64 h0 h1

theorem small_loop : ∀ (m n : Nat) (out : List Int), n < 9223372036854775808 → n < 65536 ^ m → out.length + m < 1000000 → Ev (fun k => spec_Small.l0 k n out) (out ++ figs 65536 n)
  | 0, n, out, hn, hnm, hl => by
    have : n = 0 := by simpa using hnm
    subst this
    refine Ev.step (f := fun k => some (out ++ figs 65536 0)) (fun k => ?_) (Ev.now _)
    simp [spec_Small.l0, figs_zero]
  | m + 1, n, out, hn, hnm, hl => by
    rcases Nat.eq_zero_or_pos n with rfl | hp
    · refine Ev.step (f := fun k => some (out ++ figs 65536 0)) (fun k => ?_) (Ev.now _)
      simp [spec_Small.l0, figs_zero]
    · rw [figs_pos (by omega) hp]
      have e1 : Int.tmod (n : Int) ((65536 : Nat) : Int) = ((n % 65536 : Nat) : Int) := rfl
      have e2 : wrap64 (Int.tdiv (n : Int) ((65536 : Nat) : Int)) = ((n / 65536 : Nat) : Int) := by
        rw [show Int.tdiv (n : Int) ((65536 : Nat) : Int) = ((n / 65536 : Nat) : Int) from rfl, w64] <;> omega
      have ih := small_loop m (n / 65536) (out ++ [((n % 65536 : Nat) : Int)]) (by omega) (by rw [Nat.pow_succ] at hnm; omega) (by simp; omega)
      rw [List.append_assoc] at ih
      refine Ev.step (fun k => ?_) ih
      simp only [spec_Small.l0]
      rw [if_pos (by omega), if_pos (by omega)]
      rw [show (65536 : Int) = ((65536 : Nat) : Int) from rfl, e1, e2]

theorem small_f (n : Nat) (hn : n < 9223372036854775808) : Ev (fun k => spec_Small.f k n) (figs 65536 n) := by
  have := small_loop 4 n [] hn (by omega) (by simp)
  simpa [spec_Small.f] using this

/-! Of -/
def quad (w : Int) : List Int := [w % 65536, w / 65536 % 65536, w / 4294967296 % 65536, w / 281474976710656 % 65536]
theorem quad_val {w : Int} (h0 : 0 ≤ w) (h1 : w < 18446744073709551616) : val (65536 : Nat) (quad w) = w := by simp only [quad, val]; omega
theorem quad_Dg {w : Int} (h0 : 0 ≤ w) (h1 : w < 18446744073709551616) : Dg (65536 : Nat) (quad w) := by simp [quad, Dg]; omega

theorem chunk {w : Int} (h0 : 0 ≤ w) (h1 : w < 18446744073709551616) (e : Nat) (he : e < 64) : wrap64 (Go.bits .and .u64 (shr .u64 w e) 65535) = w / 2 ^ e % 65536 := by
  have hs : shr .u64 w e = w / 2 ^ e := by
    unfold shr
    rw [show min (e : Int).toNat IntKind.u64.bits = e from by simp [IntKind.bits]; omega]
  have hq0 : 0 ≤ w / 2 ^ e := Int.ediv_nonneg h0 (Int.le_of_lt (Int.pow_pos (by decide)))
  have hq1 : w / 2 ^ e < 2 ^ 64 := Int.lt_of_le_of_lt (Int.ediv_le_self _ h0) h1
  rw [hs, show (65535 : Int) = 2 ^ 16 - 1 from rfl, bits_mask .u64 64 (by decide) (fun n a b => wu64 a (by omega)) 16 (by decide) _ hq0 hq1, show (2 : Int) ^ 16 = 65536 from rfl, w64] <;> omega

theorem of_chunk (out : List Int) (w : Int) (ws : List Int) (N i : Int) (h0 : 0 ≤ w) (h1 : w < 18446744073709551616) (hl : out.length < 1000000000000) (r : List Int)
    (h : Ev (fun k => spec_Of.l0 k (out ++ quad w) ws N (wrap64 (i + 1))) r) : Ev (fun k => spec_Of.l1 k out w 0 ws N i) r := by
  have c0 := chunk h0 h1 0 (by decide)
  have c1 := chunk h0 h1 16 (by decide)
  have c2 := chunk h0 h1 32 (by decide)
  have c3 := chunk h0 h1 48 (by decide)
  refine Ev.step (f := fun k => spec_Of.l1 k (out ++ [w % 65536]) w 1 ws N i) (fun k => ?_) ?_
  · simp only [spec_Of.l1]
    rw [if_pos (by decide), w64' (show (16 * 0 : Int) = ((0 : Nat) : Int) from rfl) (by decide) (by decide), if_pos (by decide), if_pos (by omega), c0, w64' (show (0 + 1 : Int) = 1 from rfl) (by decide) (by decide)]
    simp
  refine Ev.step (f := fun k => spec_Of.l1 k (out ++ [w % 65536] ++ [w / 65536 % 65536]) w 2 ws N i) (fun k => ?_) ?_
  · simp only [spec_Of.l1]
    rw [if_pos (by decide), w64' (show (16 * 1 : Int) = ((16 : Nat) : Int) from rfl) (by decide) (by decide), if_pos (by decide), if_pos (by simp; omega), c1, w64' (show (1 + 1 : Int) = 2 from rfl) (by decide) (by decide)]
    rfl
  refine Ev.step (f := fun k => spec_Of.l1 k (out ++ [w % 65536] ++ [w / 65536 % 65536] ++ [w / 4294967296 % 65536]) w 3 ws N i) (fun k => ?_) ?_
  · simp only [spec_Of.l1]
    rw [if_pos (by decide), w64' (show (16 * 2 : Int) = ((32 : Nat) : Int) from rfl) (by decide) (by decide), if_pos (by decide), if_pos (by simp; omega), c2, w64' (show (2 + 1 : Int) = 3 from rfl) (by decide) (by decide)]
    rfl
  refine Ev.step (f := fun k => spec_Of.l1 k (out ++ quad w) w 4 ws N i) (fun k => ?_) ?_
  · simp only [spec_Of.l1]
    rw [if_pos (by decide), w64' (show (16 * 3 : Int) = ((48 : Nat) : Int) from rfl) (by decide) (by decide), if_pos (by decide), if_pos (by simp; omega), c3, w64' (show (3 + 1 : Int) = 4 from rfl) (by decide) (by decide)]
    simp [quad]
  refine Ev.step (fun k => ?_) h
  simp only [spec_Of.l1]
  rw [if_neg (by decide)]

theorem of_loop (ws : List Int) (hd : Dg (18446744073709551616 : Nat) ws) (hm : ws.length < 100000000000) : ∀ (j i : Nat) (out : List Int), i + j = ws.length → out.length = 4 * i → Dg (65536 : Nat) out → val (65536 : Nat) out = val (18446744073709551616 : Nat) (ws.take i) →
    Ev (fun k => spec_Of.l0 k out ws ws.length i) (figs 65536 (val (18446744073709551616 : Nat) ws).toNat)
  | 0, i, out, hi, hl, ho, hv => by
    have hi : i = ws.length := by omega
    subst hi
    rw [List.take_length] at hv
    refine Ev.step (f := fun k => (spec_trim.f k out).bind fun t => some t) (fun k => ?_) (Ev.bind (by rw [← hv]; exact trim_f out (by omega) ho) (Ev.now _))
    simp only [spec_Of.l0]
    rw [if_neg (by omega)]
  | j + 1, i, out, hi, hl, ho, hv => by
    have hlt : i < ws.length := by omega
    obtain ⟨g0, g1⟩ := Dg_get (by decide) hd i
    have ih := of_loop ws hd hm j (i + 1) (out ++ quad (ws.getD i 0)) (by omega) (by simp [quad]; omega) (Dg_append.2 ⟨ho, quad_Dg g0 g1⟩) (by
      rw [val_append, quad_val g0 g1, hv, rd_take hlt, val_append, hl, List.length_take, Nat.min_eq_left (by omega), val_cons, val_nil]
      have : ((65536 : Nat) : Int) ^ (4 * i) = ((18446744073709551616 : Nat) : Int) ^ i := by rw [Int.pow_mul]; rfl
      rw [this]; simp)
    refine Ev.step (f := fun k => spec_Of.l1 k out (rd ws i) 0 ws ws.length i) (fun k => ?_) ?_
    · simp only [spec_Of.l0]
      rw [if_pos (by omega), if_pos (by omega), if_pos (by omega)]
    · have hr : rd ws (i : Int) = ws.getD i 0 := rfl
      rw [hr]
      refine of_chunk out _ ws _ _ g0 g1 (by omega) _ ?_
      rw [w64 (by omega) (by omega)]
      exact ih

theorem of_f (ws : List Int) (hd : Dg (18446744073709551616 : Nat) ws) (hm : ws.length < 100000000000) : Ev (fun k => spec_Of.f k ws) (figs 65536 (val (18446744073709551616 : Nat) ws).toNat) := by
  have := of_loop ws hd hm ws.length 0 [] (by omega) rfl (Dg_nil _) (by simp [val])
  exact this
end Go.Proofs.YtgpoplfgngiilaaGreatDoor.Pl

namespace Go.Proofs.YtgpoplfgngiilaaGreatDoor.Pl
open Go.RowKit Go.Proofs.YtgpoplfgngiilaaGreatDoorW.PrintWords Go.Proofs.YtgpoplfgngiilaaGreatDoorW.PrintLast Go.Proofs.YtgpoplfgngiilaaGreatDoorW.PrintMore PAll

theorem val_lower {B : Int} (hB : 0 < B) {xs : List Int} (hd : Dg B xs) (ht : Top xs) (hne : xs ≠ []) : B ^ (xs.length - 1) ≤ val B xs := by
  rcases snoc xs with rfl | ⟨ys, y, rfl⟩
  · exact absurd rfl hne
  · obtain ⟨h1, h2⟩ := Dg_append.1 hd
    have hy := h2 y (by simp)
    have hy0 : y ≠ 0 := by
      intro h
      subst h
      simp [Top] at ht
    have := (val_range hB h1).1
    rw [val_append, val_cons, val_nil]
    simp only [List.length_append, List.length_singleton, Nat.add_sub_cancel, Int.mul_zero, Int.add_zero]
    have hp : 0 < B ^ ys.length := Int.pow_pos hB
    have : B ^ ys.length * 1 ≤ B ^ ys.length * y := Int.mul_le_mul_of_nonneg_left (by omega) (by omega)
    omega

theorem join4 (y x : Int) (r : Nat) (hr : r < 4) (hy0 : 0 ≤ y) (hy : y < (65536 : Nat) ^ r) (hx0 : 0 ≤ x) (hx : x < 65536) :
    bits .or .u64 y (shl .u64 (IntKind.u64.wrap x) (16 * (r : Int))) = y + x * (65536 : Nat) ^ r := by
  have key : ∀ e : Nat, e ≤ 48 → y < 2 ^ e → (16 * (r : Int)).toNat = e → bits .or .u64 y (shl .u64 (IntKind.u64.wrap x) (16 * (r : Int))) = y + x * 2 ^ e := by
    intro e he hye hre
    have hpos : (0 : Int) < 2 ^ e := Int.pow_pos (by decide)
    have hle : (2 : Int) ^ e ≤ 2 ^ 48 := by exact_mod_cast Nat.pow_le_pow_right (by decide : 0 < 2) he
    have hm0 : 0 ≤ x * 2 ^ e := Int.mul_nonneg hx0 (by omega)
    have hm1 : x * 2 ^ e ≤ 65535 * 2 ^ e := Int.mul_le_mul_of_nonneg_right (by omega) (by omega)
    have hs : shl .u64 (IntKind.u64.wrap x) (16 * (r : Int)) = x * 2 ^ e := by
      unfold shl
      rw [hre, show min e IntKind.u64.bits = e from by simp [IntKind.bits]; omega, wu64 hx0 (by omega), wu64 hm0 (by omega)]
    rw [hs, u64_or _ _ hy0 (by omega) hm0 (by omega), Nat.or_comm, ← u64_or _ _ hm0 (by omega) hy0 (by omega)]
    rw [bits_join .u64 64 (by decide) (fun n a b => wu64 a (by omega)) e _ y hm0 (Int.mul_emod_left _ _) (by omega) hy0 hye (by omega)]
    omega
  rcases (by omega : r = 0 ∨ r = 1 ∨ r = 2 ∨ r = 3) with rfl | rfl | rfl | rfl
  · exact key 0 (by decide) hy rfl
  · exact key 16 (by decide) hy rfl
  · exact key 32 (by decide) hy rfl
  · exact key 48 (by decide) hy rfl

theorem zero_Dg {B : Int} (h : 0 < B) : Dg B [0] := fun x hx => by rw [List.mem_singleton] at hx; subst hx; exact ⟨Int.le_refl _, h⟩

theorem w4 (i : Nat) (h : i < 1000000000000) : Int.tmod (i : Int) 4 = ((i % 4 : Nat) : Int) ∧ wrap64 (Int.tdiv (i : Int) 4) = ((i / 4 : Nat) : Int) ∧ wrap64 (16 * ((i % 4 : Nat) : Int)) = 16 * ((i % 4 : Nat) : Int) ∧ wrap64 ((i : Int) + 1) = ((i + 1 : Nat) : Int) := by
  refine ⟨rfl, ?_, w64 (by omega) (by omega), ?_⟩
  · rw [show Int.tdiv (i : Int) 4 = ((i / 4 : Nat) : Int) from rfl, w64] <;> omega
  · rw [w64] <;> omega

theorem words_loop (B : Nat) (hB : B = 18446744073709551616) (xs : List Int) (hd : Dg (65536 : Nat) xs) (hm : xs.length < 1000000000000) : ∀ (j i : Nat) (out : List Int), i + j = xs.length → Dg B out → out.length = (i + 3) / 4 → val B out = val (65536 : Nat) (xs.take i) →
    Aside0 (i % 4 ≠ 0 → out.getD (i / 4) 0 < (65536 : Nat) ^ (i % 4)) →
    ∃ zs, Ev (fun k => spec_Words.l0 k out xs xs.length i) zs ∧ Dg B zs ∧ zs.length = (xs.length + 3) / 4 ∧ val B zs = val (65536 : Nat) xs
  | 0, i, out, hi, ho, hl, hv, hb => by
    have hi : i = xs.length := by omega
    subst hi
    rw [List.take_length] at hv
    refine ⟨out, Ev.step (f := fun k => some out) (fun k => ?_) (Ev.now _), ho, hl, hv⟩
    simp only [spec_Words.l0]
    rw [if_neg (by omega)]
  | j + 1, i, out, hi, ho, hl, hv, hb => by
    have hlt : i < xs.length := by omega
    obtain ⟨g0, g1⟩ := Dg_get (by decide) hd i
    obtain ⟨out', ho', hl', hv', hb', hst⟩ : ∃ out' : List Int, Dg B out' ∧ out'.length = i / 4 + 1 ∧ val B out' = val (65536 : Nat) (xs.take i) ∧ out'.getD (i / 4) 0 < (65536 : Nat) ^ (i % 4) ∧
        ∀ k, spec_Words.l0 (k + 1) out xs xs.length i = spec_Words.l0 k (out'.set (i / 4) (bits .or .u64 (out'.getD (i / 4) 0) (shl .u64 (IntKind.u64.wrap (xs.getD i 0)) (16 * ((i % 4 : Nat) : Int))))) xs xs.length (i + 1 : Nat) := by
      have hi4 : i < 1000000000000 := by omega
      by_cases h4 : i % 4 = 0
      · have hq : out.length = i / 4 := by omega
        refine ⟨out ++ [0], Dg_append.2 ⟨ho, zero_Dg (by omega)⟩, by simp; omega, ?_, ?_, ?_⟩
        · rw [val_append, hv]; simp [val]
        · rw [h4, ← hq]; simp
        · intro k
          simp only [spec_Words.l0]
          rw [if_pos (by omega), if_pos (by omega), if_pos (by omega), (w4 i hi4).1, (w4 i hi4).2.1, (w4 i hi4).2.2.1, (w4 i hi4).2.2.2, if_pos (by omega), if_pos (by omega)]
          simp only [Option.bind_some]
          rw [if_pos (by omega), if_pos (by simp; omega), if_pos (by omega)]
          rfl
      · refine ⟨out, ho, by omega, hv, hb.out h4, ?_⟩
        intro k
        simp only [spec_Words.l0]
        rw [if_pos (by omega), if_pos (by omega), if_pos (by omega), (w4 i hi4).1, (w4 i hi4).2.1, (w4 i hi4).2.2.1, (w4 i hi4).2.2.2, if_neg (by omega), if_pos (by omega), if_pos (by omega), if_pos (by omega)]
        rfl
    obtain ⟨d0, d1⟩ := Dg_get (by omega) ho' (i / 4)
    have hj := join4 (out'.getD (i / 4) 0) (xs.getD i 0) (i % 4) (by omega) d0 hb' g0 g1
    rw [hj] at hst
    have hlow : xs.getD i 0 * ((65536 : Nat) : Int) ^ (i % 4) ≤ 65535 * ((65536 : Nat) : Int) ^ (i % 4) := Int.mul_le_mul_of_nonneg_right (by omega) (Int.le_of_lt (Int.pow_pos (by decide)))
    have hnn : 0 ≤ xs.getD i 0 * ((65536 : Nat) : Int) ^ (i % 4) := Int.mul_nonneg g0 (Int.le_of_lt (Int.pow_pos (by decide)))
    have hnew : out'.getD (i / 4) 0 + xs.getD i 0 * ((65536 : Nat) : Int) ^ (i % 4) < ((65536 : Nat) : Int) ^ (i % 4 + 1) := by
      rw [Int.pow_succ]
      have : ((65536 : Nat) : Int) = 65536 := rfl
      omega
    have hp4 : ((65536 : Nat) : Int) ^ (i % 4 + 1) ≤ ((65536 : Nat) : Int) ^ 4 := by exact_mod_cast Nat.pow_le_pow_right (by decide : 0 < 65536) (by omega : i % 4 + 1 ≤ 4)
    have hp4' : ((65536 : Nat) : Int) ^ 4 = (B : Int) := by rw [hB]; decide
    obtain ⟨zs, hz, hz2⟩ := words_loop B hB xs hd hm j (i + 1) (out'.set (i / 4) (out'.getD (i / 4) 0 + xs.getD i 0 * ((65536 : Nat) : Int) ^ (i % 4))) (by omega)
      (Dg_set ho' _ ⟨by omega, by omega⟩) (by rw [List.length_set]; omega)
      (by
        rw [val_set _ _ _ (by omega), hv', rd_take hlt, val_append, val_cons, val_nil, List.length_take, Nat.min_eq_left (by omega)]
        have e : ((65536 : Nat) : Int) ^ i = (B : Int) ^ (i / 4) * ((65536 : Nat) : Int) ^ (i % 4) := by
          rw [← hp4', ← Int.pow_mul, ← Int.pow_add]
          congr 1
          omega
        rw [e]
        grind)
      ⟨by
        intro hne
        have e1 : (i + 1) / 4 = i / 4 := by omega
        have e2 : (i + 1) % 4 = i % 4 + 1 := by omega
        rw [e1, e2, List.getD_eq_getElem?_getD, List.getElem?_set_self (by omega)]
        exact hnew⟩
    exact ⟨zs, Ev.step hst hz, hz2⟩

theorem words_f (n : Nat) (hm : (figs 65536 n).length < 1000000000000) : Ev (fun k => spec_Words.f k (figs 65536 n)) (figs 18446744073709551616 n) := by
  have hd := figs_Dg (B := 65536) (by omega) n
  obtain ⟨zs, hz, hzd, hzl, hzv⟩ := words_loop 18446744073709551616 rfl (figs 65536 n) hd hm (figs 65536 n).length 0 [] (by omega) (Dg_nil _) rfl (by simp [val]) ⟨by simp⟩
  rw [figs_val (by omega)] at hzv
  have ht : Top zs := by
    rcases snoc zs with rfl | ⟨ys, y, rfl⟩
    · simp [Top]
    · intro hy
      have hy : y = 0 := by simpa using hy
      subst hy
      rw [val_append] at hzv
      simp only [val, Int.add_zero, Int.mul_zero] at hzv
      have h1 := (val_range (by decide) (Dg_append.1 hzd).1).2
      have hne : figs 65536 n ≠ [] := by
        intro h
        rw [h] at hzl
        simp at hzl
      have h2 := val_lower (B := (65536 : Nat)) (by decide) hd (figs_Top (by omega) n) hne
      rw [figs_val (by omega)] at h2
      have hle : 4 * ys.length ≤ (figs 65536 n).length - 1 := by simp at hzl; omega
      have e : ((18446744073709551616 : Nat) : Int) ^ ys.length = ((65536 : Nat) : Int) ^ (4 * ys.length) := by rw [Int.pow_mul]; congr 1
      have h3 : ((65536 : Nat) : Int) ^ (4 * ys.length) ≤ ((65536 : Nat) : Int) ^ ((figs 65536 n).length - 1) := by exact_mod_cast Nat.pow_le_pow_right (by decide : 0 < 65536) hle
      omega
  have := figs_uniq (B := 18446744073709551616) (by omega) hzd ht
  rw [hzv, Int.toNat_natCast] at this
  rw [← this]
  exact hz

theorem has_loop (xs : List Int) : ∀ (j i : Nat), i + j = xs.length → xs.length < 1000000000000 → Ev (fun k => spec_HasWords.l0 k xs xs xs.length i) true
  | 0, i, hi, hm => by
    refine Ev.step (f := fun k => some true) (fun k => ?_) (Ev.now _)
    simp only [spec_HasWords.l0]
    rw [if_neg (by omega)]
  | j + 1, i, hi, hm => by
    refine Ev.step (fun k => ?_) (has_loop xs j (i + 1) (by omega) hm)
    simp only [spec_HasWords.l0]
    rw [if_pos (by omega), if_pos (by omega), if_pos (by omega), if_pos (by omega), if_pos trivial, w64 (by omega) (by omega)]
    rfl

theorem has_f (n : Nat) (hm : (figs 65536 n).length < 100000000000) (hm2 : (figs 18446744073709551616 n).length < 100000000000) : Ev (fun k => spec_HasWords.f k (figs 18446744073709551616 n) (figs 65536 n)) true := by
  refine Ev.bind (words_f n (by omega)) ?_
  exact Ev.congr (g := fun k => if ((figs 18446744073709551616 n).length : Int) = ((figs 18446744073709551616 n).length : Int) then spec_HasWords.l0 k (figs 18446744073709551616 n) (figs 18446744073709551616 n) (figs 18446744073709551616 n).length 0 else some false) (fun k => if_pos rfl) (has_loop (figs 18446744073709551616 n) _ 0 (Nat.zero_add _) (by omega))
end Go.Proofs.YtgpoplfgngiilaaGreatDoor.Pl

namespace Go.Proofs.YtgpoplfgngiilaaGreatDoor.Pl
open Go.RowKit Go.Proofs.YtgpoplfgngiilaaGreatDoorW.PrintWords Go.Proofs.YtgpoplfgngiilaaGreatDoorW.PrintLast Go.Proofs.YtgpoplfgngiilaaGreatDoorW.PrintMore PAll

/-- -1, 0 or 1. -/
def cmpInt (a b : Int) : Int := if a < b then -1 else if b < a then 1 else 0

theorem val_mono {B : Int} (hB : 0 < B) {xs ys : List Int} (hx : Dg B xs) (hy : Dg B ys) (ht : Top ys) (hl : xs.length < ys.length) : val B xs < val B ys := by
  have h1 := (val_range hB hx).2
  have hne : ys ≠ [] := by intro h; subst h; simp at hl
  have h2 := val_lower hB hy ht hne
  have h3 : B ^ xs.length ≤ B ^ (ys.length - 1) := by
    obtain ⟨b, rfl⟩ := Int.eq_ofNat_of_zero_le (Int.le_of_lt hB)
    exact_mod_cast Nat.pow_le_pow_right (by omega : 0 < b) (by omega : xs.length ≤ ys.length - 1)
  omega

theorem cmp_split {B : Int} (hB : 0 < B) (n : Nat) (a b p q e : Int) (ha : 0 ≤ a ∧ a < e) (hb : 0 ≤ b ∧ b < e) : (p < q → a + e * p < b + e * q) := by
  intro h
  have : e * (p + 1) ≤ e * q := Int.mul_le_mul_of_nonneg_left (by omega) (by omega)
  rw [Int.mul_add] at this
  omega

theorem cmp_loop (xs ys : List Int) (hx : Dg (65536 : Nat) xs) (hy : Dg (65536 : Nat) ys) (hl : xs.length = ys.length) (hm : xs.length < 1000000000000) : ∀ (i : Nat), i ≤ xs.length →
    val (65536 : Nat) (xs.drop i) = val (65536 : Nat) (ys.drop i) → ∀ n : Int, n = (i : Int) - 1 → Ev (fun k => spec_Cmp.l0 k xs ys n) (cmpInt (val (65536 : Nat) xs) (val (65536 : Nat) ys))
  | 0, hi, hv, n, hn => by
    rw [List.drop_zero, List.drop_zero] at hv
    refine Ev.step (f := fun k => some 0) (fun k => ?_) ?_
    · simp only [spec_Cmp.l0]
      rw [if_neg (by omega)]
    · rw [hv, show cmpInt (val (65536 : Nat) ys) (val (65536 : Nat) ys) = 0 from by simp [cmpInt]]
      exact Ev.now _
  | i + 1, hi, hv, n, hn => by
    have hn : n = (i : Int) := by omega
    subst hn
    have rx : rd xs (i : Int) = xs.getD i 0 := rfl
    have ry : rd ys (i : Int) = ys.getD i 0 := rfl
    have tx := val_append (65536 : Nat) (xs.take (i + 1)) (xs.drop (i + 1))
    have ty := val_append (65536 : Nat) (ys.take (i + 1)) (ys.drop (i + 1))
    rw [List.take_append_drop, rd_take (by omega), val_append, val_cons, val_nil, hv] at tx
    rw [List.take_append_drop, rd_take (by omega), val_append, val_cons, val_nil] at ty
    simp only [List.length_append, List.length_take, List.length_singleton, Int.mul_zero, Int.add_zero, Nat.min_eq_left (show i ≤ xs.length by omega)] at tx
    simp only [List.length_append, List.length_take, List.length_singleton, Int.mul_zero, Int.add_zero, Nat.min_eq_left (show i ≤ ys.length by omega)] at ty
    have bx := val_range (by decide) (Dg_take hx i)
    have by' := val_range (by decide) (Dg_take hy i)
    rw [List.length_take, Nat.min_eq_left (by omega)] at bx by'
    obtain ⟨gx0, gx1⟩ := Dg_get (by decide) hx i
    obtain ⟨gy0, gy1⟩ := Dg_get (by decide) hy i
    by_cases h1 : xs.getD i 0 < ys.getD i 0
    · have := cmp_split (B := 1) (by decide) 0 _ _ _ _ _ bx by' h1
      rw [show cmpInt (val (65536 : Nat) xs) (val (65536 : Nat) ys) = -1 from by unfold cmpInt; rw [tx, ty, if_pos (by omega)]]
      refine Ev.step (f := fun k => some (-1)) (fun k => ?_) (Ev.now _)
      simp only [spec_Cmp.l0]
      rw [if_pos (by omega), if_pos (by omega), if_pos (by omega), if_pos (by omega), rx, ry, if_pos h1]
    · by_cases h2 : ys.getD i 0 < xs.getD i 0
      · have := cmp_split (B := 1) (by decide) 0 _ _ _ _ _ by' bx h2
        rw [show cmpInt (val (65536 : Nat) xs) (val (65536 : Nat) ys) = 1 from by unfold cmpInt; rw [tx, ty, if_neg (by omega), if_pos (by omega)]]
        refine Ev.step (f := fun k => some 1) (fun k => ?_) (Ev.now _)
        simp only [spec_Cmp.l0]
        rw [if_pos (by omega), if_pos (by omega), if_pos (by omega), if_pos (by omega), rx, ry, if_neg h1, if_pos h2]
      · have he : xs.getD i 0 = ys.getD i 0 := by omega
        have hw : wrap64 ((i : Int) - 1) = (i : Int) - 1 := w64 (by omega) (by omega)
        have hd1 : xs.drop i = xs.getD i 0 :: xs.drop (i + 1) := by
          rw [List.drop_eq_getElem_cons (by omega), List.getD_eq_getElem?_getD, List.getElem?_eq_getElem (by omega)]
          rfl
        have hd2 : ys.drop i = ys.getD i 0 :: ys.drop (i + 1) := by
          rw [List.drop_eq_getElem_cons (by omega), List.getD_eq_getElem?_getD, List.getElem?_eq_getElem (by omega)]
          rfl
        refine Ev.step (fun k => ?_) (cmp_loop xs ys hx hy hl hm i (by omega) (by rw [hd1, hd2, val_cons, val_cons, he, hv]) ((i : Int) - 1) rfl)
        simp only [spec_Cmp.l0]
        rw [hw]
        clear hw
        rw [if_pos (by omega), if_pos (by omega), if_pos (by omega), if_pos (by omega), rx, ry, if_neg h1, if_neg h2]

theorem cmp_f (m n : Nat) (hm : (figs 65536 m).length < 1000000000000) (hn : (figs 65536 n).length < 1000000000000) : Ev (fun k => spec_Cmp.f k (figs 65536 m) (figs 65536 n)) (cmpInt m n) := by
  have hx := figs_Dg (B := 65536) (by omega) m
  have hy := figs_Dg (B := 65536) (by omega) n
  have hvx := figs_val (B := 65536) (by omega) m
  have hvy := figs_val (B := 65536) (by omega) n
  by_cases h1 : (figs 65536 m).length < (figs 65536 n).length
  · have h := val_mono (by decide) hx hy (figs_Top (by omega) n) h1
    rw [hvx, hvy] at h
    refine Ev.congr (f := fun _ => some (-1)) (fun k => ?_) (by rw [show cmpInt m n = -1 from if_pos h]; exact Ev.now _)
    unfold spec_Cmp.f
    rw [if_pos (by omega)]
  · by_cases h2 : (figs 65536 n).length < (figs 65536 m).length
    · have h := val_mono (by decide) hy hx (figs_Top (by omega) m) h2
      rw [hvx, hvy] at h
      refine Ev.congr (f := fun _ => some 1) (fun k => ?_) (by rw [show cmpInt m n = 1 from by unfold cmpInt; rw [if_neg (by omega), if_pos h]]; exact Ev.now _)
      unfold spec_Cmp.f
      rw [if_neg (by omega), if_pos (by omega)]
    · have hl : (figs 65536 m).length = (figs 65536 n).length := by omega
      have h := cmp_loop (figs 65536 m) (figs 65536 n) hx hy hl hm (figs 65536 m).length (Nat.le_refl _) (by rw [List.drop_length, hl, List.drop_length]) _ rfl
      rw [hvx, hvy] at h
      refine Ev.congr (fun k => ?_) h
      unfold spec_Cmp.f
      rw [if_neg (by omega), if_neg (by omega), w64 (by omega) (by omega)]

theorem cmpInt_eq (a b : Int) : cmpInt a b = 0 ↔ a = b := by
  unfold cmpInt
  split
  · constructor <;> intro h <;> omega
  · split
    · constructor <;> intro h <;> omega
    · constructor <;> intro h <;> omega

theorem same_f (p q : Bool) (a b c d : Nat) (ha : (figs 65536 a).length < 1000000000000) (hb : (figs 65536 b).length < 1000000000000) (hc : (figs 65536 c).length < 1000000000000) (hd : (figs 65536 d).length < 1000000000000) :
    Ev (fun k => spec_same.f k p (figs 65536 a) (figs 65536 b) q (figs 65536 c) (figs 65536 d)) (decide (p = q ∧ a = c ∧ b = d)) := by
  unfold spec_same.f
  by_cases h1 : p = q
  · refine Ev.congr (fun k => if_pos (by simpa using h1)) ?_
    refine Ev.bind (cmp_f a c ha hc) ?_
    by_cases h2 : a = c
    · refine Ev.congr (fun k => if_pos ((cmpInt_eq _ _).2 (by omega))) ?_
      have := Ev.bind (f := fun _ t => some (t == 0)) (cmp_f b d hb hd) (Ev.now _)
      have e : (cmpInt (b : Int) (d : Int) == 0) = decide (p = q ∧ a = c ∧ b = d) := by
        have := cmpInt_eq (b : Int) d
        by_cases h3 : b = d
        · have h4 := this.2 (by omega)
          rw [h4]; simp [h1, h2, h3]
        · have h4 : cmpInt (b : Int) d ≠ 0 := fun h => h3 (by have := this.1 h; omega)
          simp [h4, h3]
      rw [← e]
      exact this
    · refine Ev.congr (f := fun _ => some false) (fun k => if_neg (fun h => h2 (by have := (cmpInt_eq _ _).1 h; omega))) ?_
      rw [show decide (p = q ∧ a = c ∧ b = d) = false from by simp [h2]]
      exact Ev.now _
  · refine Ev.congr (f := fun _ => some false) (fun k => if_neg (by simpa using h1)) ?_
    rw [show decide (p = q ∧ a = c ∧ b = d) = false from by simp [h1]]
    exact Ev.now _

/-! byDigit -/
theorem byd_quo (rest x d : Nat) (hd0 : 0 < d) (hr : rest < d) (hx : x < 65536) : (rest * 65536 + x) / d < 65536 := by
  rw [Nat.div_lt_iff_lt_mul hd0]
  have : (rest + 1) * 65536 ≤ d * 65536 := Nat.mul_le_mul_right _ (by omega)
  rw [Nat.add_mul, Nat.mul_comm d] at this
  omega

theorem byd_w (rest x d i : Nat) (hd0 : 0 < d) (hd : d < 65536) (hr : rest < d) (hx : x < 65536) (hi : i < 1000000000000) :
    wrap64 ((rest : Int) * 65536) = (rest : Int) * 65536 ∧ wrap64 ((rest : Int) * 65536 + (x : Int)) = ((rest * 65536 + x : Nat) : Int) ∧
    wrap64 (Int.tdiv ((rest * 65536 + x : Nat) : Int) (d : Int)) = (((rest * 65536 + x) / d : Nat) : Int) ∧ Int.tmod ((rest * 65536 + x : Nat) : Int) (d : Int) = (((rest * 65536 + x) % d : Nat) : Int) ∧ wrap64 ((i : Int) - 1) = (i : Int) - 1 := by
  have hq := byd_quo rest x d hd0 hr hx
  refine ⟨w64 (by omega) (by omega), w64' (by omega) (by omega) (by omega), ?_, rfl, w64 (by omega) (by omega)⟩
  rw [show Int.tdiv ((rest * 65536 + x : Nat) : Int) (d : Int) = (((rest * 65536 + x) / d : Nat) : Int) from rfl]
  generalize (rest * 65536 + x) / d = q at hq ⊢
  exact w64 (by omega) (by omega)

theorem byd_loop (xs : List Int) (d : Nat) (hx : Dg (65536 : Nat) xs) (hm : xs.length < 1000000000000) (hd0 : 0 < d) (hd : d < 65536) : ∀ (i : Nat) (out : List Int) (rest : Nat), i ≤ xs.length → out.length = xs.length → Dg (65536 : Nat) out → (∀ j, j < i → out.getD j 0 = 0) →
    val (65536 : Nat) (xs.drop i) = val (65536 : Nat) (out.drop i) * d + rest → rest < d → ∀ n : Int, n = (i : Int) - 1 →
    Ev (fun k => spec_byDigit.l0 k xs d out rest n) (figs 65536 ((val (65536 : Nat) xs).toNat / d), (((val (65536 : Nat) xs).toNat % d : Nat) : Int))
  | 0, out, rest, hi, hl, ho, hz, hv, hr, n, hn => by
    rw [List.drop_zero, List.drop_zero] at hv
    have h0 := (val_range (by decide) ho).1
    obtain ⟨q, hq⟩ := Int.eq_ofNat_of_zero_le h0
    have e : (val (65536 : Nat) xs).toNat = rest + d * q := by
      rw [hv, hq, show ((q : Int) * d + rest) = ((rest + d * q : Nat) : Int) from by push_cast; rw [Int.mul_comm, Int.add_comm], Int.toNat_natCast]
    have e1 : (rest + d * q) / d = q := by rw [Nat.add_mul_div_left _ _ hd0, Nat.div_eq_of_lt hr, Nat.zero_add]
    have e2 : (rest + d * q) % d = rest := by rw [Nat.add_mul_mod_self_left, Nat.mod_eq_of_lt hr]
    rw [e, e1, e2]
    have ht := trim_f out (by omega) ho
    rw [hq, Int.toNat_natCast] at ht
    refine Ev.step (f := fun k => (spec_trim.f k out).bind fun t => some (t, (rest : Int))) (fun k => ?_) (Ev.bind ht (Ev.now _))
    simp only [spec_byDigit.l0]
    rw [if_neg (by omega)]
  | i + 1, out, rest, hi, hl, ho, hz, hv, hr, n, hn => by
    have hn : n = (i : Int) := by omega
    subst hn
    have rx : rd xs (i : Int) = xs.getD i 0 := rfl
    obtain ⟨gx0, gx1⟩ := Dg_get (by decide) hx i
    have hd1 : xs.drop i = xs.getD i 0 :: xs.drop (i + 1) := by
      rw [List.drop_eq_getElem_cons (by omega), List.getD_eq_getElem?_getD, List.getElem?_eq_getElem (by omega)]
      rfl
    obtain ⟨x, hxx⟩ := Int.eq_ofNat_of_zero_le gx0
    have hx1 : x < 65536 := by omega
    have hquo := byd_quo rest x d hd0 hr hx1
    have hset : ∀ y : Int, (out.set i y).drop i = y :: out.drop (i + 1) := by
      intro y
      rw [List.drop_eq_getElem_cons (by rw [List.length_set]; omega), List.getElem_set_self, List.drop_set_of_lt (by omega)]
    have hmod := Nat.mod_add_div (rest * 65536 + x) d
    have ih := byd_loop xs d hx hm hd0 hd i (out.set i (((rest * 65536 + x) / d : Nat) : Int)) ((rest * 65536 + x) % d) (by omega) (by rw [List.length_set]; exact hl)
      (Dg_set ho _ ⟨Int.natCast_nonneg _, by exact_mod_cast hquo⟩)
      (fun j hj => by rw [List.getD_eq_getElem?_getD, List.getElem?_set_ne (by omega), ← List.getD_eq_getElem?_getD]; exact hz j (by omega))
      (by
        rw [hset, hd1, val_cons, val_cons, hv, hxx]
        have hmod' : (((rest * 65536 + x) % d : Nat) : Int) + (d : Int) * (((rest * 65536 + x) / d : Nat) : Int) = (rest : Int) * 65536 + x := by rw [← Int.natCast_mul, ← Int.natCast_add, hmod, Int.natCast_add, Int.natCast_mul]; rfl
        have e65 : ((65536 : Nat) : Int) = 65536 := rfl
        rw [e65]
        generalize (((rest * 65536 + x) % d : Nat) : Int) = a at hmod' ⊢
        generalize (((rest * 65536 + x) / d : Nat) : Int) = b at hmod' ⊢
        grind) (Nat.mod_lt _ hd0) ((i : Int) - 1) rfl
    refine Ev.step (fun k => ?_) ih
    simp only [spec_byDigit.l0]
    have hi4 : i < 1000000000000 := by omega
    obtain ⟨hw1, hw2, hw3, hw4, hw5⟩ := byd_w rest x d i hd0 hd hr hx1 hi4
    rw [rx, hxx, hw1, hw2, hw3, hw4, hw5]
    clear hw1 hw2 hw3 hw4 hw5
    rw [if_pos (by omega), if_pos (by omega), if_pos (by omega), if_neg (by omega), if_pos (by omega)]
    rfl

theorem byd_f (n d : Nat) (hm : (figs 65536 n).length < 1000000000000) (hd0 : 0 < d) (hd : d < 65536) : Ev (fun k => spec_byDigit.f k (figs 65536 n) d) (figs 65536 (n / d), ((n % d : Nat) : Int)) := by
  have h := byd_loop (figs 65536 n) d (figs_Dg (by omega) n) hm hd0 hd (figs 65536 n).length (List.replicate (figs 65536 n).length 0) 0 (Nat.le_refl _) (by simp)
    (fun x hx => by rw [List.mem_replicate] at hx; obtain ⟨_, rfl⟩ := hx; exact ⟨Int.le_refl _, by decide⟩)
    (fun j hj => by rw [List.getD_eq_getElem?_getD, List.getElem?_replicate, if_pos hj]; rfl) (by rw [List.drop_length, List.drop_eq_nil_of_le (by simp)]; simp [val]) hd0 _ rfl
  rw [figs_val (by omega), Int.toNat_natCast] at h
  refine Ev.congr (fun k => ?_) h
  unfold spec_byDigit.f
  rw [if_pos (by omega), if_pos (by omega), w64 (by omega) (by omega)]
  rfl
end Go.Proofs.YtgpoplfgngiilaaGreatDoor.Pl

namespace Go.Proofs.YtgpoplfgngiilaaGreatDoor.Pl
open Go.RowKit Go.Proofs.YtgpoplfgngiilaaGreatDoorW.PrintWords Go.Proofs.YtgpoplfgngiilaaGreatDoorW.PrintLast Go.Proofs.YtgpoplfgngiilaaGreatDoorW.PrintMore PAll

theorem bt_nat (s : ByteArray) (j : Nat) (h : j < s.size) : bt s j = ((s[j]'h).toNat : Int) := (bt_at s (j : Int) (by simpa using h)).symm

theorem bt_left (a b : ByteArray) (j : Nat) (h : j < a.size) : bt (a ++ b) j = bt a j := by
  rw [bt_nat a j h, bt_nat (a ++ b) j (by rw [ByteArray.size_append]; omega), ByteArray.getElem_append_left h]

theorem bt_right (a b : ByteArray) (j : Nat) (h : j < b.size) : bt (a ++ b) (a.size + j : Nat) = bt b j := by
  rw [bt_nat b j h, bt_nat (a ++ b) (a.size + j) (by rw [ByteArray.size_append]; omega), ByteArray.getElem_append_right (by omega)]
  congr 3
  omega

theorem bt_ext (s : ByteArray) (a b j : Nat) (h : a + j < b) (hb : b ≤ s.size) : bt (s.extract a b) j = bt s (a + j : Nat) := by
  have hs : (s.extract a b).size = b - a := by rw [ByteArray.size_extract, Nat.min_eq_left hb]
  rw [bt_nat _ j (by omega), bt_nat s (a + j) (by omega), ByteArray.getElem_extract]

/-- The figures of n in base b, the lowest last, by a table; as many as there are. -/
def Figs (tab : ByteArray) (b n : Nat) (t : ByteArray) : Prop := ∀ j : Nat, j < t.size → bt t j = bt tab (n / b ^ (t.size - 1 - j) % b : Nat)

theorem Figs_nil (tab : ByteArray) (b n : Nat) : Figs tab b n ⟨#[]⟩ := fun j h => absurd h (Nat.not_lt_zero _)

theorem Figs_cons {tab : ByteArray} {b n : Nat} {t u : ByteArray} (h : Figs tab b n t) (hu : u.size = 1) (h0 : bt u 0 = bt tab (n / b ^ t.size % b : Nat)) : Figs tab b n (u ++ t) := by
  intro j hj
  rw [ByteArray.size_append, hu] at hj
  rcases j with _ | j
  · rw [ByteArray.size_append, hu, bt_left u t 0 (by omega)]
    have e : 1 + t.size - 1 - 0 = t.size := by omega
    rw [e]
    exact h0
  · have e : ((j + 1 : Nat) : Int) = ((u.size + j : Nat) : Int) := by omega
    rw [ByteArray.size_append, e, bt_right u t j (by omega), hu, h j (by omega), show 1 + t.size - 1 - (j + 1) = t.size - 1 - j from by omega]

set_option maxHeartbeats 2000000 in
theorem inb_loop (tab : ByteArray) (b n0 : Nat) (hb : 2 ≤ b) (hbt : b ≤ tab.size) (htab : tab.size < 65536) : ∀ (m n : Nat) (acc : ByteArray), n < 2 ^ m → n = n0 / b ^ acc.size → acc.size + m < 100000000000 → Figs tab b n0 acc → (acc.size = 0 ∨ b ^ (acc.size - 1) ≤ n0) →
    ∃ t, Ev (fun k => spec_InBase.l0 k (figs 65536 n) b tab acc) t ∧ Figs tab b n0 t ∧ n0 < b ^ t.size ∧ (t.size = 0 ∨ b ^ (t.size - 1) ≤ n0) ∧ t.size ≤ acc.size + m := by
    intro m
    induction m with
    | zero =>
      intro n acc hn hn0 hs hf hmin
      have hbp : 0 < b ^ acc.size := Nat.pow_pos (by omega)
      have h0 : n = 0 := by simpa using hn
      subst h0
      refine ⟨acc, Ev.step (f := fun k => some acc) (fun k => ?_) (Ev.now _), hf, ?_, hmin, by omega⟩
      · simp only [spec_InBase.l0, figs_zero]
        rw [if_neg (by simp)]
      · rcases Nat.lt_or_ge n0 (b ^ acc.size) with h | h
        · exact h
        · have := Nat.div_pos h hbp
          rw [← hn0] at this
          exact absurd this (by decide)
    | succ m ihm =>
    intro n acc hn hn0 hs hf hmin
    have hbp : 0 < b ^ acc.size := Nat.pow_pos (by omega)
    rcases Nat.eq_zero_or_pos n with h0 | hp
    · subst h0
      refine ⟨acc, Ev.step (f := fun k => some acc) (fun k => ?_) (Ev.now _), hf, ?_, hmin, by omega⟩
      · simp only [spec_InBase.l0, figs_zero]
        rw [if_neg (by simp)]
      · rcases Nat.lt_or_ge n0 (b ^ acc.size) with h | h
        · exact h
        · have := Nat.div_pos h hbp
          rw [← hn0] at this
          exact absurd this (by decide)
    · have hmod := Nat.mod_lt n (show 0 < b by omega)
      have hsz : (tab.extract (n % b) (n % b + 1)).size = 1 := by rw [ByteArray.size_extract, Nat.min_eq_left (by omega)]; omega
      have hdlt : n / b < 2 ^ m := by
        rw [Nat.div_lt_iff_lt_mul (by omega)]
        rw [Nat.pow_succ] at hn
        have : 2 ^ m * 2 ≤ 2 ^ m * b := Nat.mul_le_mul_left _ hb
        omega
      have hge : b ^ acc.size ≤ n0 := by
        rcases Nat.lt_or_ge n0 (b ^ acc.size) with h | h
        · rw [Nat.div_eq_of_lt h] at hn0; omega
        · exact h
      have hlen : (figs 65536 n).length ≤ m + 1 := figs_length_le (by omega) (m + 1) n (Nat.lt_of_lt_of_le hn (Nat.pow_le_pow_left (by omega) _))
      obtain ⟨t, ht, h1, h2, h3, h4⟩ := ihm (n / b) (tab.extract (n % b) (n % b + 1) ++ acc) hdlt
        (by rw [ByteArray.size_append, hsz, hn0, Nat.add_comm, Nat.pow_succ, Nat.div_div_eq_div_mul])
        (by rw [ByteArray.size_append, hsz]; omega)
        (Figs_cons hf hsz (by
          have := bt_ext tab (n % b) (n % b + 1) 0 (by omega) (by omega)
          rw [← hn0]
          exact this))
        (by rw [ByteArray.size_append, hsz, Nat.add_sub_cancel_left]; exact .inr hge)
      rw [ByteArray.size_append, hsz] at h4
      refine ⟨t, ?_, h1, h2, h3, by omega⟩
      refine Ev.step (f := fun k => (spec_byDigit.f k (figs 65536 n) b).bind fun bt169 => (if 0 ≤ bt169.2 then (if bt169.2 ≤ (wrap64 (bt169.2 + 1)) then (if (wrap64 (bt169.2 + 1)) ≤ (tab.size : Int) then (if (tab.extract (bt169.2 : Int).toNat ((wrap64 (bt169.2 + 1)) : Int).toNat).size + acc.size ≤ 9223372036854775807 then (spec_InBase.l0 k bt169.1 b tab ((tab.extract (bt169.2 : Int).toNat ((wrap64 (bt169.2 + 1)) : Int).toNat) ++ acc)) else (none)) else (none)) else (none)) else (none))) (fun k => ?_) (Ev.bind (byd_f n b (by omega) (by omega) (by omega)) ?_)
      · simp only [spec_InBase.l0]
        rw [if_pos (by have := List.length_pos_iff.2 (figs_ne (B := 65536) (by omega) hp); omega)]
      · have hw : wrap64 (((n % b : Nat) : Int) + 1) = ((n % b + 1 : Nat) : Int) := by rw [w64] <;> omega
        refine Ev.congr (fun k => ?_) ht
        simp only [hw]
        clear hw
        rw [if_pos (by omega), if_pos (by omega), if_pos (by omega)]
        simp only [Int.toNat_natCast]
        rw [if_pos (by omega)]

def low : ByteArray := ⟨#[48, 49, 50, 51, 52, 53, 54, 55, 56, 57, 97, 98, 99, 100, 101, 102]⟩
def upp : ByteArray := ⟨#[48, 49, 50, 51, 52, 53, 54, 55, 56, 57, 65, 66, 67, 68, 69, 70]⟩

theorem size_nil : (⟨#[]⟩ : ByteArray).size = 0 := rfl

/-- InBase's text: the figures, none too many. -/
theorem inBase_f (n b m : Nat) (up : Bool) (hn : n < 2 ^ m) (hm : m < 10000000000) (hb : 2 ≤ b) (hb16 : b ≤ 16) :
    ∃ t, Ev (fun k => spec_InBase.f k (figs 65536 n) b up) t ∧ Figs (if up = true then upp else low) b n t ∧ n < b ^ t.size ∧ (n = 0 ∧ t.size = 1 ∨ 0 < t.size ∧ b ^ (t.size - 1) ≤ n) ∧ t.size ≤ m + 1 := by
  rcases Nat.eq_zero_or_pos n with h0 | hp
  · subst h0
    refine ⟨⟨#[48]⟩, Ev.congr (f := fun _ => some ⟨#[48]⟩) (fun k => ?_) (Ev.now _), ?_, ?_, .inl ⟨rfl, rfl⟩, ?_⟩
    · simp [spec_InBase.f, figs_zero]
    · intro j hj
      have : j = 0 := by have : (⟨#[48]⟩ : ByteArray).size = 1 := rfl
                         omega
      subst this
      cases up <;> simp <;> rfl
    · show 0 < b ^ 1
      simp; omega
    · show 1 ≤ m + 1
      omega
  · have hts : (if up = true then upp else low).size = 16 := by cases up <;> rfl
    obtain ⟨t, ht, h1, h2, h3, h4⟩ := inb_loop (if up = true then upp else low) b n hb (by omega) (by omega) m n ⟨#[]⟩ hn (by show n = n / b ^ 0; simp) (by show 0 + m < _; omega) (Figs_nil _ _ _) (.inl rfl)
    have hpos : 0 < t.size := by
      rcases Nat.eq_zero_or_pos t.size with h | h
      · rw [h] at h2; simp at h2; omega
      · exact h
    refine ⟨t, ?_, h1, h2, .inr ⟨hpos, h3.resolve_left (by omega)⟩, by rw [size_nil] at h4; omega⟩
    have hne := List.length_pos_iff.2 (figs_ne (B := 65536) (by omega) hp)
    cases up
    · have ht' := Ev.step (g := fun k => spec_InBase.j0 k (figs 65536 n) b low) (f := fun k => spec_InBase.l0 k (figs 65536 n) b low ⟨#[]⟩) (fun k => rfl) ht
      refine Ev.congr (fun k => ?_) ht'
      unfold spec_InBase.f
      rw [if_neg (by omega), if_neg (by decide)]
      rfl
    · have ht' := Ev.step (g := fun k => spec_InBase.j0 k (figs 65536 n) b upp) (f := fun k => spec_InBase.l0 k (figs 65536 n) b upp ⟨#[]⟩) (fun k => rfl) ht
      refine Ev.congr (fun k => ?_) ht'
      unfold spec_InBase.f
      rw [if_neg (by omega), if_pos rfl]
      rfl
end Go.Proofs.YtgpoplfgngiilaaGreatDoor.Pl

namespace Go.Proofs.YtgpoplfgngiilaaGreatDoor
open Go.RowKit Go.Proofs.YtgpoplfgngiilaaGreatDoorW.PrintWords

theorem results_tmp4 {fn : Func} {t u v x : Tmp} (h : fn.results = #[.tmp t, .tmp u, .tmp v, .tmp x]) (tmps : Array Value) (P : Program) (w : World) :
    (results fn tmps).run P w = .ok (.tuple #[tmps.getD t undef, tmps.getD u undef, tmps.getD v undef, tmps.getD x undef]) w := by simp [results, h]
theorem results_tmp5 {fn : Func} {t u v x y : Tmp} (h : fn.results = #[.tmp t, .tmp u, .tmp v, .tmp x, .tmp y]) (tmps : Array Value) (P : Program) (w : World) :
    (results fn tmps).run P w = .ok (.tuple #[tmps.getD t undef, tmps.getD u undef, tmps.getD v undef, tmps.getD x undef, tmps.getD y undef]) w := by simp [results, h]

theorem C_at {w : World} {kd : IntKind} {A : Option Addr} {n : Nat} {xs : List Int} (h : Kd.C (Kd.int kd) w A n xs) (i : Nat) (hi : i < n) : ∃ ad, A = some ad ∧ w.cell? (ad.add i) = some (.int kd (xs.getD i 0)) := by
  obtain ⟨ad, c1, hA, _, hK, hcell⟩ := h.get_ (d := 0) (i : Int) (by omega) (by omega)
  have hc1 : c1 = [.int kd (xs.getD i 0)] := hK
  subst hc1
  have h0 := hcell 0 _ rfl
  refine ⟨ad, hA, ?_⟩
  have e : (i : Int).toNat * (Kd.int kd).sz + 0 = i := by show (i : Int).toNat * 1 + 0 = i; omega
  rw [e] at h0
  exact h0
theorem C_len {w : World} {kd : IntKind} {A : Option Addr} {n : Nat} {xs : List Int} (h : Kd.C (Kd.int kd) w A n xs) : xs.length = n := h.1
theorem take_snoc (xs : List Int) (k : Nat) (h : k < xs.length) : xs.take (k + 1) = xs.take k ++ [xs.getD k 0] := by
  rw [List.take_add_one, List.getElem?_eq_getElem h]
  simp [List.getD_eq_getElem?_getD, List.getElem?_eq_getElem h]

/-- A slice value that reads as these words; its array, if it has one, is a block of S. -/
def Wd (S : Nat → Prop) (w : World) (v : Value) (xs : List Int) : Prop := ∃ A c, v = .slice A xs.length c ∧ xs.length ≤ c ∧ Kd.C (Kd.int .u64) w A xs.length xs ∧ ∀ ad, A = some ad → S ad.block
theorem C_nil (w : World) (kd : IntKind) (A : Option Addr) : Kd.C (Kd.int kd) w A 0 [] := ⟨rfl, by omega, fun h => absurd h (by omega)⟩
theorem C_mk {w : World} {kd : IntKind} {ad : Addr} {xs : List Int} (hl : xs.length ≤ 9223372036854775807) (h : ∀ i, i < xs.length → w.cell? (ad.add i) = some (.int kd (xs.getD i 0))) : Kd.C (Kd.int kd) w (some ad) xs.length xs := by
  refine ⟨rfl, hl, fun _ => ⟨ad, rfl, fun j p hj => ⟨[.int kd p], rfl, rfl, fun i u hu => ?_⟩⟩⟩
  have hj' := (List.getElem?_eq_some_iff.1 hj)
  obtain ⟨hlt, hp⟩ := hj'
  match i, hu with
  | 0, hu =>
    have hu' : u = .int kd p := by simpa using hu.symm
    subst hu'
    have e : j * (Kd.int kd).sz + 0 = j := by show j * 1 + 0 = j; omega
    rw [e, h j hlt]
    simp [List.getD_eq_getElem?_getD, hj]
  | i + 1, hu => simp at hu
theorem C_one {w : World} {kd : IntKind} {b : Nat} {x : Int} (h : w.cell? ⟨b, 0, none⟩ = some (.int kd x)) : Kd.C (Kd.int kd) w (some ⟨b, 0, none⟩) 1 [x] :=
  C_mk (xs := [x]) (by simp) (fun i hi => by
    have : i = 0 := by simpa using hi
    subst this
    simpa [Addr.add] using h)
theorem C_move {w w1 : World} {kd : IntKind} {A : Option Addr} {n : Nat} {xs : List Int} (h : Kd.C (Kd.int kd) w A n xs) (hm : ∀ ad : Addr, A = some ad → ∀ k, w1.cell? (ad.add k) = w.cell? (ad.add k)) : Kd.C (Kd.int kd) w1 A n xs := by
  refine ⟨h.1, h.2.1, fun hn => ?_⟩
  obtain ⟨ad, hA, hc⟩ := h.2.2 hn
  refine ⟨ad, hA, fun j p hj => ?_⟩
  obtain ⟨c, hl, hk, hcell⟩ := hc j p hj
  exact ⟨c, hl, hk, fun i u hu => (hm ad hA _).trans (hcell i u hu)⟩
theorem block_add (a : Addr) (n : Nat) : (a.add n).block = a.block := by unfold Addr.add; split <;> rfl
theorem C_far {w : World} {kd : IntKind} {A : Option Addr} {n : Nat} {xs : List Int} (h : Kd.C (Kd.int kd) w A n xs) {p : Addr} (hne : ∀ ad : Addr, A = some ad → ad.block ≠ p.block) (u : Value) : Kd.C (Kd.int kd) (w.setCell p u) A n xs :=
  C_move h fun ad hA k => World.cell?_of_block (Below.heap_setCell w p u _ (by rw [block_add]; exact hne ad hA))
theorem Wd_below {S : Nat → Prop} {w w1 : World} {v : Value} {xs : List Int} (h : Wd S w v xs) (hb : Below w.heap.size w w1) : Wd S w1 v xs := by
  obtain ⟨A, c, hv, hl, hc, hs⟩ := h
  exact ⟨A, c, hv, hl, Kd.C_below hc hb, hs⟩
theorem Wd_mono {S T : Nat → Prop} {w : World} {v : Value} {xs : List Int} (h : Wd S w v xs) (hst : ∀ k, S k → T k) : Wd T w v xs := by
  obtain ⟨A, c, hv, hl, hc, hs⟩ := h
  exact ⟨A, c, hv, hl, hc, fun ad ha => hst _ (hs ad ha)⟩
theorem Wd_far {S : Nat → Prop} {w : World} {v : Value} {xs : List Int} (h : Wd S w v xs) {p : Addr} (hp : ¬ S p.block) (u : Value) : Wd S (w.setCell p u) v xs := by
  obtain ⟨A, c, hv, hl, hc, hs⟩ := h
  exact ⟨A, c, hv, hl, C_far hc (fun ad ha e => hp (e ▸ hs ad ha)) u, hs⟩
theorem Wd_R {w : World} {e base : Nat} {ok : Nat → Prop} {v : Value} {xs : List Int} (h : Kd.R (Kd.int .u64) e w base ok v xs) : Wd (fun k => base ≤ k) w v xs := by
  obtain ⟨A, c, hv, hl, hc⟩ := Kd.R_reads h
  refine ⟨A, c, hv, hl, hc, fun ad ha => ?_⟩
  obtain ⟨inner, ho⟩ := Kd.R_own h
  exact own_base ho _ (by rw [hv, ha]; rfl)
theorem only_drewN {a w : World} {row : Option Nat} (h : a.grownBy w row) (n : Nat) : a.grownBy (w.drewN n) row := ⟨h.os, h.tape, h.output, h.size, h.block⟩
theorem only_alloc {a w : World} {row : Option Nat} (h : a.grownBy w row) (o : Obj) : a.grownBy (w.alloc o) row :=
  ⟨h.os, h.tape, h.output, Nat.le_trans h.size (by simp), fun i hi hne => (Below.heap_alloc w o i (Nat.lt_of_lt_of_le hi h.size)).trans (h.block i hi hne)⟩
theorem only_setCell {a w : World} {g : Nat} (h : a.grownBy w (some g)) {p : Addr} (hp : p.block = g ∨ a.heap.size ≤ p.block) (u : Value) : a.grownBy (w.setCell p u) (some g) :=
  ⟨h.os, h.tape, h.output, by simpa [World.setCell] using h.size, fun i hi hne => (Below.heap_setCell w p u i (by
    rintro rfl
    rcases hp with hp | hp
    · exact hne (by rw [hp])
    · omega)).trans (h.block i hi hne)⟩
theorem only_refl (w : World) (row : Option Nat) : w.grownBy w row := ⟨rfl, rfl, rfl, Nat.le_refl _, fun _ _ _ => rfl⟩
theorem only_below {a w w1 : World} {row : Option Nat} (h : a.grownBy w row) (hb : Below w.heap.size w w1) : a.grownBy w1 row :=
  ⟨hb.os.trans h.os, hb.tape.trans h.tape, hb.output.trans h.output, Nat.le_trans h.size hb.size, fun i hi hne => (hb.block i (Nat.lt_of_lt_of_le hi h.size)).trans (h.block i hi hne)⟩
theorem only_trans {a w w1 : World} {row : Option Nat} (h : a.grownBy w row) (k : w.grownBy w1 row) : a.grownBy w1 row :=
  ⟨k.os.trans h.os, k.tape.trans h.tape, k.output.trans h.output, Nat.le_trans h.size k.size, fun i hi hne => (k.block i (Nat.lt_of_lt_of_le hi h.size) hne).trans (h.block i hi hne)⟩
theorem V_C {kd : IntKind} {w : World} {e base : Nat} {ok : Nat → Prop} {v : Value} {xs : List Int} (h : Kd.V (Kd.int kd) e w base ok v xs) : ∃ A c, v = .slice A xs.length c ∧ xs.length ≤ c ∧ Kd.C (Kd.int kd) w A xs.length xs := by
  obtain ⟨A, c, rfl⟩ := Kd.V_slice h
  exact ⟨A, c, rfl, (Kd.V_reads' h).2.1, (Kd.V_reads' h).2.2⟩
end Go.Proofs.YtgpoplfgngiilaaGreatDoor

namespace Go.Proofs.YtgpoplfgngiilaaGreatDoor.PAll
open Go.RowKit Go.Proofs.YtgpoplfgngiilaaGreatDoorW.PrintWords Go.Proofs.YtgpoplfgngiilaaGreatDoorW.PrintLast Go.Proofs.YtgpoplfgngiilaaGreatDoorW.PrintMore
attribute [local go_sem] max2_int min2_int max_two min_two max_three min_three max_four min_four   -- for this text's walks alone
/-! ### bigall_pow: function 151 -/
def bigall_pow.l0 : Nat → Int → Int → Int → Option (Int)
  | 0, _, _, _ => none
  | k + 1, x0, x1, x4 => if x1 > 0 then (if (Go.bits .and .i64 x1 1) = 0 then (bigall_pow.l0 k (IntKind.u64.wrap (x0 * x0)) (x1 / 2) x4) else (bigall_pow.l0 k (IntKind.u64.wrap (x0 * x0)) (x1 / 2) (IntKind.u64.wrap (x4 * x0)))) else (some x4)
def bigall_pow.f (k : Nat) (a0 : Int) (a1 : Int) : Option (Int) := bigall_pow.l0 k a0 a1 1
set_option maxHeartbeats 8000000 in
set_option maxRecDepth 100000 in
theorem bigall_pow.calls (k : Nat) (a0 : Int) (a1 : Int) (r : Int) (w : World) (h : bigall_pow.f k a0 a1 = some r) :
    Calls Tryz.prog 151 #[.int .u64 a0, .int .i64 a1] w fun e w' => e = .returned (.int .u64 r) ∧ Drawn0 w w' := by
  have H : (bigall_pow.l0 k a0 a1 1) = some r := h
  clear h
  have H' := Aside0.mk H
  clear H
  go_enter Tryz.func151, Tryz.ntmps151
  go_wp2
  go_loopg [0, 1, 4] k (fun kq v0 v1 v4 w' => ∃ (x0_1 : Int) (x1_1 : Int) (x4_1 : Int), v0 = .int .u64 x0_1 ∧ v1 = .int .i64 x1_1 ∧ v4 = .int .u64 x4_1 ∧ Aside0 (bigall_pow.l0 kq x0_1 x1_1 x4_1 = some r) ∧ Aside0 (kq ≤ k) ∧ Drawn0 w w')
  case atStart => exact ⟨(a0), (a1), (1), (by first | rfl | (simp; done) | (simp [*]; done)), (by first | rfl | (simp; done) | (simp [*]; done)), (by first | rfl | (simp; done) | (simp [*]; done)), H', ⟨Nat.le_refl _⟩, by repeat (first | exact Drawn0.refl _ | apply Drawn0.step)⟩
  case round =>
    clear H'
    try clear c1
    try clear p2
    obtain ⟨x0_1, x1_1, x4_1, rfl, rfl, rfl, HA, HK1, ⟨m1, rfl⟩⟩ := hrel
    cases gk with
    | zero => exact absurd HA.out (by simp [bigall_pow.l0])
    | succ k1 =>
      have H := HA.out
      clear HA
      simp only [bigall_pow.l0] at H
      by_cases c3 : x1_1 > 0
      · rw [if_pos c3] at H
        have c3b0 : decide (0 < x1_1) = true := decide_eq_true c3
        clear c3
        by_cases c4 : (Go.bits .and .i64 x1_1 1) = 0
        · rw [if_pos c4] at H
          have c4b0 : ((Go.bits .and .i64 x1_1 1) == 0) = true := beq_iff_eq.mpr c4
          have c4b1 : ((Go.bits .and .i64 x1_1 1) != 0) = false := bne_eq_false_iff_eq.mpr c4
          clear c4
          have H' := Aside0.mk H
          clear H
          go_wp2
          go_roundg k1
          case measure => have := HK1.out; omega
          case rel => exact ⟨(IntKind.u64.wrap (x0_1 * x0_1)), (x1_1 / 2), (x4_1), (by first | rfl | (simp; done) | (simp [*]; done)), (by first | rfl | (simp; done) | (simp [*]; done)), (by first | rfl | (simp; done) | (simp [*]; done)), H', ⟨by have := HK1.out; omega⟩, by repeat (first | exact Drawn0.refl _ | apply Drawn0.step)⟩
        · rw [if_neg c4] at H
          have c4b0 : ((Go.bits .and .i64 x1_1 1) == 0) = false := beq_eq_false_iff_ne.mpr c4
          have c4b1 : ((Go.bits .and .i64 x1_1 1) != 0) = true := bne_iff_ne.mpr c4
          have H' := Aside0.mk H
          clear H
          go_wp2
          go_roundg k1
          case measure => have := HK1.out; omega
          case rel => exact ⟨(IntKind.u64.wrap (x0_1 * x0_1)), (x1_1 / 2), (IntKind.u64.wrap (x4_1 * x0_1)), (by first | rfl | (simp; done) | (simp [*]; done)), (by first | rfl | (simp; done) | (simp [*]; done)), (by first | rfl | (simp; done) | (simp [*]; done)), H', ⟨by have := HK1.out; omega⟩, by repeat (first | exact Drawn0.refl _ | apply Drawn0.step)⟩
      · rw [if_neg c3] at H
        have c3b0 : decide (0 < x1_1) = false := decide_eq_false c3
        clear c3
        obtain rfl := Option.some.inj H
        go_wp2
        go_ret
        exact ⟨by first | rfl | (simp; done) | (simp [*]; done), by repeat (first | exact Drawn0.refl _ | apply Drawn0.step)⟩
end Go.Proofs.YtgpoplfgngiilaaGreatDoor.PAll
