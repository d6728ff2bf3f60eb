/- Literal of package impl over a literal of a character; that what it answers is the integer: IsInt is true of it. The law FnLiteralChar, walked arm by arm. The law FnLiteralChar, its other arms walked. The law FnLiteralChar, its arm of base 8. The law FnLiteralChar: for every rune and every form it returns true. -/
import Derived.Test.YtgpoplfgngiilaaGreatDoorRf
import Derived.Test.YtgpoplfgngiilaaGreatDoorPl
import Derived.Test.YtgpoplfgngiilaaGreatDoorLc
import Derived.Test.YtgpoplfgngiilaaGreatDoorUc
namespace Go.Proofs.YtgpoplfgngiilaaGreatDoor
open Go.RowKit Go.Proofs.YtgpoplfgngiilaaGreatDoorW.PrintWords PAll Pl
set_option linter.unusedVariables false
set_option linter.unusedSimpArgs false

def quote1 : ByteArray := ⟨#[39]⟩
theorem quote1_size : quote1.size = 1 := rfl

theorem inner_of (s : ByteArray) : (quote1 ++ s ++ quote1).extract 1 ((quote1 ++ s ++ quote1).size - 1) = s := by
  have hsz : (quote1 ++ s ++ quote1).size = 1 + s.size + 1 := by rw [ByteArray.size_append, ByteArray.size_append, quote1_size]
  apply ByteArray.ext_getElem
  · rw [ByteArray.size_extract, hsz]; omega
  · intro i h1 h2
    rw [ByteArray.getElem_extract, ByteArray.getElem_append_left (by rw [ByteArray.size_append, quote1_size]; omega), ByteArray.getElem_append_right (by rw [quote1_size]; omega)]
    congr 1
    rw [quote1_size]; omega

theorem lit_char (s : ByteArray) (v : Int) (w : World) (hm : s.size ≤ 50) (hv0 : 0 ≤ v) (hv1 : v < 2147483648) (hu : ∀ W, Below w.heap.size w W → Calls Tryz.prog 48 #[.string s, .int .u8 39] W (UqOk v W)) :
    Calls Tryz.prog 11 #[.string (quote1 ++ s ++ quote1), .int .i64 3] w fun e w' => ∃ A c, e = .returned (numVal 3 false (.slice A (wordsOf1 v).length c) (.slice none 0 0)) ∧ (wordsOf1 v).length ≤ c ∧ Kd.C (Kd.int .u64) w' A (wordsOf1 v).length (wordsOf1 v) ∧ Below w.heap.size w w' := by
  have hsz : (quote1 ++ s ++ quote1).size = 1 + s.size + 1 := by rw [ByteArray.size_append, ByteArray.size_append, quote1_size]
  have h := literal_of (quote1 ++ s ++ quote1) 3 (by decide) (.iface 88 (.int .i64 v)) w (fun _ => True) 3 false
    (fun W x y => Wd (fun k => w.heap.size + 2 ≤ k) W x (wordsOf1 v) ∧ y = .slice none 0 0)
    (fun W hb hl => (mfl_char (quote1 ++ s ++ quote1) v W (by omega) (by omega) hv0 hv1 (by rw [inner_of]; exact hu W hb)).mono (fun e w' h => ⟨h.1, h.2, trivial⟩))
    (fun W hl _ => (told64 v W hv0 (by omega)).mono (fun e w' h => by
      obtain ⟨u, rfl, h1, h2⟩ := h
      obtain ⟨A, c, rfl, hc, hC, hS⟩ := h1
      refine ⟨A, _, c, none, 0, 0, rfl, ⟨⟨A, c, rfl, hc, hC, fun ad ha => Nat.le_trans hl (hS ad ha)⟩, rfl⟩, h2⟩))
    (fun W i u x y hq => ⟨Wd_far (p := ⟨w.heap.size, i, none⟩) hq.1 (by simp) u, hq.2⟩)
  refine h.mono ?_
  rintro e w' ⟨A, n, c, A2, n2, c2, rfl, ⟨⟨A', c', he, hc, hC, hS⟩, he2⟩, hb⟩
  cases he
  cases he2
  exact ⟨_, _, rfl, hc, hC, hb⟩

theorem one_figs : figs 65536 1 = [1] := figs_one (by omega) (by omega) (by omega)
theorem wordsOf1_figs {v : Nat} (h : v < 18446744073709551616) : wordsOf1 v = figs 18446744073709551616 v := by
  unfold wordsOf1
  split
  · have : v = 0 := by omega
    subst this
    rw [figs_zero]
  · rw [figs_one (by omega) (by omega) h]

/-- Of64 and IsInt over what Literal answered. -/
theorem of64_f (v : Nat) (hv : v < 9223372036854775808) : Ev (fun k => spec_Of64.f k v) (false, figs 65536 v, figs 65536 1) := by
  unfold spec_Of64.f
  have hd : Dg (18446744073709551616 : Nat) [(v : Int)] := fun x hx => by rw [List.mem_singleton] at hx; subst hx; omega
  have h1 := of_f [(v : Int)] hd (by simp)
  have e : (val (18446744073709551616 : Nat) [(v : Int)]).toNat = v := by rw [val_cons, val_nil, Int.mul_zero, Int.add_zero, Int.toNat_natCast]
  rw [e] at h1
  refine Ev.congr (fun k => if_neg (by omega)) ?_
  rw [wu64 (by omega) (by omega)]
  exact Ev.bind h1 (Ev.bind (small_f 1 (by omega)) (Ev.now _))

theorem figs_short {n : Nat} (h : n < 9223372036854775808) : (figs 65536 n).length ≤ 4 := figs_length_le (by omega) 4 n (by omega)

theorem isInt_true (v : Nat) (hv : v < 9223372036854775808) (A : Option Addr) (c : Nat) (B1 : Option Addr) (d1 : Nat) (B2 : Option Addr) (d2 : Nat) (w : World)
    (hc : (wordsOf1 v).length ≤ c) (hC : Kd.C (Kd.int .u64) w A (wordsOf1 v).length (wordsOf1 v))
    (hB1 : Kd.C (Kd.int .i64) w B1 (figs 65536 v).length (figs 65536 v)) (hd1 : (figs 65536 v).length ≤ d1) (hB2 : Kd.C (Kd.int .i64) w B2 (figs 65536 1).length (figs 65536 1)) (hd2 : (figs 65536 1).length ≤ d2) :
    Calls Tryz.prog 10 #[numVal 3 false (.slice A (wordsOf1 v).length c) (.slice none 0 0), .agg #[.bool false, .slice B1 (figs 65536 v).length d1, .slice B2 (figs 65536 1).length d2]] w fun e w' => e = .returned (.bool true) ∧ Below w.heap.size w w' := by
  have hl := figs_short hv
  have hl1 : (figs 65536 1).length ≤ 4 := figs_short (by omega)
  have hw : (wordsOf1 v).length ≤ 1 := by unfold wordsOf1; split <;> simp
  have hd : Dg (18446744073709551616 : Nat) (wordsOf1 v) := by rw [wordsOf1_figs (by omega)]; exact figs_Dg (by omega) v
  have h1 := of_f (wordsOf1 v) hd (by omega)
  rw [wordsOf1_figs (v := v) (by omega), figs_val (by omega), Int.toNat_natCast, ← wordsOf1_figs (v := v) (by omega)] at h1
  have h2 := has_f v (by omega) (by rw [← wordsOf1_figs (by omega)]; omega)
  rw [← wordsOf1_figs (v := v) (by omega)] at h2
  obtain ⟨k1, h1⟩ := h1
  obtain ⟨k2, h2⟩ := h2
  obtain ⟨k3, h3⟩ := (same_f false false v 1 v 1 (by omega) (by omega) (by omega) (by omega)).rounds
  rw [one_figs] at h3
  refine (isInt_any A c (wordsOf1 v) false B1 d1 (figs 65536 v) B2 d2 (figs 65536 1) (k1 + k2) k3 (figs 65536 v) true w hC hc hB1 hd1 hB2 hd2 (h1 _ (by omega)) (h2 _ (by omega)) ?_).mono ?_
  · rw [one_figs, h3]; simp
  · exact fun e w' h => h
end Go.Proofs.YtgpoplfgngiilaaGreatDoor

namespace Go.Proofs.YtgpoplfgngiilaaGreatDoor
open Go.RowKit Go.Proofs.YtgpoplfgngiilaaGreatDoorW.PrintWords PAll Pl
set_option linter.unusedVariables false
set_option linter.unusedSimpArgs false

theorem quote1_is : (⟨#[39]⟩ : ByteArray) = quote1 := rfl
/-- What Literal answers at the text that the law has built. -/
theorem lit_at (s : ByteArray) (v : Nat) (h1 : s.size ≤ 50) (hv : v < 1114112) (w w1 : World) (hb : Below w.heap.size w w1) (hu : ∀ W, Below w.heap.size w W → Calls Tryz.prog 48 #[.string s, .int .u8 39] W (UqOk v W)) :
    Calls Tryz.prog 11 #[.string ((⟨#[39]⟩ : ByteArray) ++ s ++ ⟨#[39]⟩), .int .i64 3] w1 (fun e w' => ∃ A c, e = .returned (numVal 3 false (.slice A (wordsOf1 v).length c) (.slice none 0 0)) ∧ (wordsOf1 v).length ≤ c ∧ Kd.C (Kd.int .u64) w' A (wordsOf1 v).length (wordsOf1 v) ∧ Below w1.heap.size w1 w') := by
  have h2 : (v : Int) < 2147483648 := by omega
  have h3 : ∀ W, Below w1.heap.size w1 W → Calls Tryz.prog 48 #[.string s, .int .u8 39] W (UqOk v W) := fun W hW => hu W (below_step hb hW)
  rw [quote1_is]
  exact lit_char s v w1 h1 (by omega) h2 h3

set_option maxHeartbeats 2000000 in
set_option maxRecDepth 100000 in
theorem char_arm1 (n f : Int) (s h : ByteArray) (k : Nat) (w : World) (hn0 : 0 ≤ n) (hn1 : n < 4294967296) (hf0 : 0 ≤ f) (hf1 : f < 256) (hf : f % 5 = 1)
    (hs : n % 1114112 < 55296 ∨ 57344 ≤ n % 1114112) (v : Nat) (hv : n % 256 = v) (hH : spec_Hex.f k v 2 = some h) (hh : h.size = 2) (hsz : s.size = 4) (hsh : s = ⟨#[92, 120]⟩ ++ h)
    (hu : ∀ W, Below w.heap.size w W → Calls Tryz.prog 48 #[.string s, .int .u8 39] W (UqOk v W)) :
    Calls Tryz.prog 4 #[.int .u32 n, .int .u8 f] w fun e w' => e = .returned (.bool true) ∧ Below w.heap.size w w' := by
  have e256 : n % 1114112 % 256 = n % 256 := by omega
  have hvr : v < 256 := by omega
  obtain ⟨k2, h14⟩ := (of64_f v (by omega)).rounds
  have H14 := Aside0.mk h14
  have HH := Aside0.mk hH
  have H11 := Aside0.mk (fun w1 hb => lit_at s v (by omega) (by omega) w w1 hb hu)
  have HV := Aside0.mk hv
  have E256 := Aside0.mk e256
  have HSH := Aside0.mk hsh
  clear hu h14 hH hv e256 hsz hsh
  go_enter Tryz.func4, Tryz.ntmps4
  go_wp2_with fail
  all_goals
    try rw [E256.out]
    rw [HV.out]
    refine (spec_Hex.calls k _ _ h _ HH.out).mono ?_
    rintro e w1 ⟨rfl, hb⟩
    have HB := Aside0.mk hb
    clear hb
    go_wp2_with fail
    rw [← HSH.out]
    refine (H11.out w1 HB.out).mono ?_
    rintro e w2 ⟨A, c, rfl, hc, hC, hb⟩
    have HB2 := Aside0.mk (below_step HB.out hb)
    have HC := Aside0.mk hC
    have HCL := Aside0.mk hc
    clear hc hC hb
    go_wp2_with fail
    refine (spec_Of64.calls k2 _ _ _ _ _ H14.out).mono ?_
    rintro e w3 ⟨v1, v2, rfl, hV1, hR2, hb3⟩
    have hV2 := V_of_R (S := fun _ => True) (b := 0) hR2 (fun _ _ => trivial)
    obtain ⟨B1, d1, rfl⟩ := Kd.V_slice hV1
    obtain ⟨B2, d2, rfl⟩ := Kd.V_slice hV2
    have HB3 := Aside0.mk (below_step HB2.out hb3)
    have HC3 := Aside0.mk (Kd.C_below HC.out hb3)
    have HV1 := Aside0.mk (Kd.V_reads' hV1)
    have HV2 := Aside0.mk (Kd.V_reads' hV2)
    clear hV1 hR2 hV2 hb3
    go_wp2_with fail
    refine (isInt_true v (by omega) A c B1 d1 B2 d2 w3 HCL.out HC3.out HV1.out.2.2 HV1.out.2.1 HV2.out.2.2 HV2.out.2.1).mono ?_
    rintro e w4 ⟨rfl, hb4⟩
    have HB4 := Aside0.mk (below_step HB3.out hb4)
    clear hb4
    go_wp2_with fail
    go_ret
    exact ⟨rfl, HB4.out⟩
end Go.Proofs.YtgpoplfgngiilaaGreatDoor

namespace Go.Proofs.YtgpoplfgngiilaaGreatDoor
open Go.RowKit Go.Proofs.YtgpoplfgngiilaaGreatDoorW.PrintWords PAll Pl
set_option linter.unusedVariables false
set_option linter.unusedSimpArgs false

set_option maxHeartbeats 2000000 in
set_option maxRecDepth 100000 in
theorem char_sur (n f : Int) (w : World) (hn0 : 0 ≤ n) (hn1 : n < 4294967296) (hf0 : 0 ≤ f) (hf1 : f < 256) (h0 : 55296 ≤ n % 1114112) (h1 : n % 1114112 < 57344) :
    Calls Tryz.prog 4 #[.int .u32 n, .int .u8 f] w fun e w' => e = .returned (.bool true) ∧ Below w.heap.size w w' := by
  go_enter Tryz.func4, Tryz.ntmps4
  go_wp2_with fail
  all_goals
    go_ret
    exact ⟨rfl, by first | exact Below.refl _ _ | exact pw_below_drewN (Below.refl _ _) _⟩

set_option maxHeartbeats 2000000 in
set_option maxRecDepth 100000 in
theorem char_arm3hi (n f : Int) (w : World) (hn0 : 0 ≤ n) (hn1 : n < 4294967296) (hf0 : 0 ≤ f) (hf1 : f < 256) (hf : f % 5 = 3) (hs : n % 1114112 < 55296 ∨ 57344 ≤ n % 1114112) (hr : 65535 < n % 1114112) :
    Calls Tryz.prog 4 #[.int .u32 n, .int .u8 f] w fun e w' => e = .returned (.bool true) ∧ Below w.heap.size w w' := by
  go_enter Tryz.func4, Tryz.ntmps4
  go_wp2_with fail
  all_goals
    go_ret
    exact ⟨rfl, by first | exact Below.refl _ _ | exact pw_below_drewN (Below.refl _ _) _⟩

set_option maxHeartbeats 2000000 in
set_option maxRecDepth 100000 in
theorem char_39 (n f : Int) (w : World) (hn0 : 0 ≤ n) (hn1 : n < 4294967296) (hf0 : 0 ≤ f) (hf1 : f < 256) (hf : f % 5 = 0) (hr : n % 1114112 = 39) :
    Calls Tryz.prog 4 #[.int .u32 n, .int .u8 f] w fun e w' => e = .returned (.bool true) ∧ Below w.heap.size w w' := by
  go_enter Tryz.func4, Tryz.ntmps4
  go_wp2_with fail
  all_goals
    go_ret
    exact ⟨rfl, by first | exact Below.refl _ _ | exact pw_below_drewN (Below.refl _ _) _⟩

set_option maxHeartbeats 2000000 in
set_option maxRecDepth 100000 in
theorem char_92 (n f : Int) (w : World) (hn0 : 0 ≤ n) (hn1 : n < 4294967296) (hf0 : 0 ≤ f) (hf1 : f < 256) (hf : f % 5 = 0) (hr : n % 1114112 = 92) :
    Calls Tryz.prog 4 #[.int .u32 n, .int .u8 f] w fun e w' => e = .returned (.bool true) ∧ Below w.heap.size w w' := by
  go_enter Tryz.func4, Tryz.ntmps4
  go_wp2_with fail
  all_goals
    go_ret
    exact ⟨rfl, by first | exact Below.refl _ _ | exact pw_below_drewN (Below.refl _ _) _⟩

set_option maxHeartbeats 2000000 in
set_option maxRecDepth 100000 in
theorem char_10 (n f : Int) (w : World) (hn0 : 0 ≤ n) (hn1 : n < 4294967296) (hf0 : 0 ≤ f) (hf1 : f < 256) (hf : f % 5 = 0) (hr : n % 1114112 = 10) :
    Calls Tryz.prog 4 #[.int .u32 n, .int .u8 f] w fun e w' => e = .returned (.bool true) ∧ Below w.heap.size w w' := by
  go_enter Tryz.func4, Tryz.ntmps4
  go_wp2_with fail
  all_goals
    go_ret
    exact ⟨rfl, by first | exact Below.refl _ _ | exact pw_below_drewN (Below.refl _ _) _⟩

set_option maxHeartbeats 2000000 in
set_option maxRecDepth 100000 in
theorem char_arm3 (n f : Int) (s h : ByteArray) (k : Nat) (w : World) (hn0 : 0 ≤ n) (hn1 : n < 4294967296) (hf0 : 0 ≤ f) (hf1 : f < 256) (hf : f % 5 = 3)
    (hs : n % 1114112 < 55296 ∨ 57344 ≤ n % 1114112) (hr : n % 1114112 ≤ 65535) (v : Nat) (hv : n % 1114112 = v) (hH : spec_Hex.f k v 4 = some h) (hsz : s.size ≤ 50) (hsh : s = ⟨#[92, 117]⟩ ++ h)
    (hu : ∀ W, Below w.heap.size w W → Calls Tryz.prog 48 #[.string s, .int .u8 39] W (UqOk v W)) :
    Calls Tryz.prog 4 #[.int .u32 n, .int .u8 f] w fun e w' => e = .returned (.bool true) ∧ Below w.heap.size w w' := by
  have hvr : v < 1114112 := by omega
  have hh : h.size ≤ 50 := by rw [hsh, ByteArray.size_append] at hsz; omega
  obtain ⟨k2, h14⟩ := (of64_f v (by omega)).rounds
  have H14 := Aside0.mk h14
  have HH := Aside0.mk hH
  have H11 := Aside0.mk (fun w1 hb => lit_at s v (by omega) (by omega) w w1 hb hu)
  have HV := Aside0.mk hv
  have HSH := Aside0.mk hsh
  clear hu h14 hH hv hsz hsh
  go_enter Tryz.func4, Tryz.ntmps4
  go_wp2_with fail
  all_goals
    rw [HV.out]
    refine (spec_Hex.calls k _ _ h _ HH.out).mono ?_
    rintro e w1 ⟨rfl, hb⟩
    have HB := Aside0.mk hb
    clear hb
    go_wp2_with fail
    rw [← HSH.out]
    refine (H11.out w1 HB.out).mono ?_
    rintro e w2 ⟨A, c, rfl, hc, hC, hb⟩
    have HB2 := Aside0.mk (below_step HB.out hb)
    have HC := Aside0.mk hC
    have HCL := Aside0.mk hc
    clear hc hC hb
    go_wp2_with fail
    refine (spec_Of64.calls k2 _ _ _ _ _ H14.out).mono ?_
    rintro e w3 ⟨v1, v2, rfl, hV1, hR2, hb3⟩
    have hV2 := V_of_R (S := fun _ => True) (b := 0) hR2 (fun _ _ => trivial)
    obtain ⟨B1, d1, rfl⟩ := Kd.V_slice hV1
    obtain ⟨B2, d2, rfl⟩ := Kd.V_slice hV2
    have HB3 := Aside0.mk (below_step HB2.out hb3)
    have HC3 := Aside0.mk (Kd.C_below HC.out hb3)
    have HV1 := Aside0.mk (Kd.V_reads' hV1)
    have HV2 := Aside0.mk (Kd.V_reads' hV2)
    clear hV1 hR2 hV2 hb3
    go_wp2_with fail
    refine (isInt_true v (by omega) A c B1 d1 B2 d2 w3 HCL.out HC3.out HV1.out.2.2 HV1.out.2.1 HV2.out.2.2 HV2.out.2.1).mono ?_
    rintro e w4 ⟨rfl, hb4⟩
    have HB4 := Aside0.mk (below_step HB3.out hb4)
    clear hb4
    go_wp2_with fail
    go_ret
    exact ⟨rfl, HB4.out⟩
set_option maxHeartbeats 2000000 in
set_option maxRecDepth 100000 in
theorem char_arm4 (n f : Int) (s h : ByteArray) (k : Nat) (w : World) (hn0 : 0 ≤ n) (hn1 : n < 4294967296) (hf0 : 0 ≤ f) (hf1 : f < 256) (hf : f % 5 = 4)
    (hs : n % 1114112 < 55296 ∨ 57344 ≤ n % 1114112) (v : Nat) (hv : n % 1114112 = v) (hH : spec_Hex.f k v 8 = some h) (hsz : s.size ≤ 50) (hsh : s = ⟨#[92, 85]⟩ ++ h)
    (hu : ∀ W, Below w.heap.size w W → Calls Tryz.prog 48 #[.string s, .int .u8 39] W (UqOk v W)) :
    Calls Tryz.prog 4 #[.int .u32 n, .int .u8 f] w fun e w' => e = .returned (.bool true) ∧ Below w.heap.size w w' := by
  have hvr : v < 1114112 := by omega
  have hh : h.size ≤ 50 := by rw [hsh, ByteArray.size_append] at hsz; omega
  obtain ⟨k2, h14⟩ := (of64_f v (by omega)).rounds
  have H14 := Aside0.mk h14
  have HH := Aside0.mk hH
  have H11 := Aside0.mk (fun w1 hb => lit_at s v (by omega) (by omega) w w1 hb hu)
  have HV := Aside0.mk hv
  have HSH := Aside0.mk hsh
  clear hu h14 hH hv hsz hsh
  go_enter Tryz.func4, Tryz.ntmps4
  go_wp2_with fail
  all_goals
    rw [HV.out]
    refine (spec_Hex.calls k _ _ h _ HH.out).mono ?_
    rintro e w1 ⟨rfl, hb⟩
    have HB := Aside0.mk hb
    clear hb
    go_wp2_with fail
    rw [← HSH.out]
    refine (H11.out w1 HB.out).mono ?_
    rintro e w2 ⟨A, c, rfl, hc, hC, hb⟩
    have HB2 := Aside0.mk (below_step HB.out hb)
    have HC := Aside0.mk hC
    have HCL := Aside0.mk hc
    clear hc hC hb
    go_wp2_with fail
    refine (spec_Of64.calls k2 _ _ _ _ _ H14.out).mono ?_
    rintro e w3 ⟨v1, v2, rfl, hV1, hR2, hb3⟩
    have hV2 := V_of_R (S := fun _ => True) (b := 0) hR2 (fun _ _ => trivial)
    obtain ⟨B1, d1, rfl⟩ := Kd.V_slice hV1
    obtain ⟨B2, d2, rfl⟩ := Kd.V_slice hV2
    have HB3 := Aside0.mk (below_step HB2.out hb3)
    have HC3 := Aside0.mk (Kd.C_below HC.out hb3)
    have HV1 := Aside0.mk (Kd.V_reads' hV1)
    have HV2 := Aside0.mk (Kd.V_reads' hV2)
    clear hV1 hR2 hV2 hb3
    go_wp2_with fail
    refine (isInt_true v (by omega) A c B1 d1 B2 d2 w3 HCL.out HC3.out HV1.out.2.2 HV1.out.2.1 HV2.out.2.2 HV2.out.2.1).mono ?_
    rintro e w4 ⟨rfl, hb4⟩
    have HB4 := Aside0.mk (below_step HB3.out hb4)
    clear hb4
    go_wp2_with fail
    go_ret
    exact ⟨rfl, HB4.out⟩
set_option maxHeartbeats 2000000 in
set_option maxRecDepth 100000 in
theorem char_arm0 (n f : Int) (s : ByteArray) (w : World) (hn0 : 0 ≤ n) (hn1 : n < 4294967296) (hf0 : 0 ≤ f) (hf1 : f < 256) (hf : f % 5 = 0)
    (hs : n % 1114112 < 55296 ∨ 57344 ≤ n % 1114112) (h39 : n % 1114112 ≠ 39) (h92 : n % 1114112 ≠ 92) (h10 : n % 1114112 ≠ 10) (v : Nat) (hv : n % 1114112 = v) (hH : laws_encoded.f v = some s) (hsz : s.size ≤ 50)
    (hu : ∀ W, Below w.heap.size w W → Calls Tryz.prog 48 #[.string s, .int .u8 39] W (UqOk v W)) :
    Calls Tryz.prog 4 #[.int .u32 n, .int .u8 f] w fun e w' => e = .returned (.bool true) ∧ Below w.heap.size w w' := by
  have hvr : v < 1114112 := by omega
  have b39 : (n % 1114112 == 39) = false := by simpa using h39
  have b92 : (n % 1114112 == 92) = false := by simpa using h92
  have b10 : (n % 1114112 == 10) = false := by simpa using h10
  clear h39 h92 h10
  obtain ⟨k2, h14⟩ := (of64_f v (by omega)).rounds
  have H14 := Aside0.mk h14
  have HH := Aside0.mk hH
  have H11 := Aside0.mk (fun w1 hb => lit_at s v (by omega) (by omega) w w1 hb hu)
  have HV := Aside0.mk hv
  clear hu h14 hH hv
  go_enter Tryz.func4, Tryz.ntmps4
  go_wp2_with fail
  all_goals
    rw [HV.out]
    refine (laws_encoded.calls _ s _ HH.out).mono ?_
    rintro e w1 ⟨rfl, hb⟩
    have HB := Aside0.mk hb
    clear hb
    go_wp2_with fail
    refine (H11.out w1 HB.out).mono ?_
    rintro e w2 ⟨A, c, rfl, hc, hC, hb⟩
    have HB2 := Aside0.mk (below_step HB.out hb)
    have HC := Aside0.mk hC
    have HCL := Aside0.mk hc
    clear hc hC hb
    go_wp2_with fail
    refine (spec_Of64.calls k2 _ _ _ _ _ H14.out).mono ?_
    rintro e w3 ⟨v1, v2, rfl, hV1, hR2, hb3⟩
    have hV2 := V_of_R (S := fun _ => True) (b := 0) hR2 (fun _ _ => trivial)
    obtain ⟨B1, d1, rfl⟩ := Kd.V_slice hV1
    obtain ⟨B2, d2, rfl⟩ := Kd.V_slice hV2
    have HB3 := Aside0.mk (below_step HB2.out hb3)
    have HC3 := Aside0.mk (Kd.C_below HC.out hb3)
    have HV1 := Aside0.mk (Kd.V_reads' hV1)
    have HV2 := Aside0.mk (Kd.V_reads' hV2)
    clear hV1 hR2 hV2 hb3
    go_wp2_with fail
    refine (isInt_true v (by omega) A c B1 d1 B2 d2 w3 HCL.out HC3.out HV1.out.2.2 HV1.out.2.1 HV2.out.2.2 HV2.out.2.1).mono ?_
    rintro e w4 ⟨rfl, hb4⟩
    have HB4 := Aside0.mk (below_step HB3.out hb4)
    clear hb4
    go_wp2_with fail
    go_ret
    exact ⟨rfl, HB4.out⟩
end Go.Proofs.YtgpoplfgngiilaaGreatDoor

namespace Go.Proofs.YtgpoplfgngiilaaGreatDoor
open Go.RowKit Go.Proofs.YtgpoplfgngiilaaGreatDoorW.PrintWords PAll Pl
set_option linter.unusedVariables false
set_option linter.unusedSimpArgs false

set_option maxHeartbeats 2000000 in
set_option maxRecDepth 100000 in
theorem char_arm2 (n f : Int) (s : ByteArray) (w : World) (hn0 : 0 ≤ n) (hn1 : n < 4294967296) (hf0 : 0 ≤ f) (hf1 : f < 256) (hf : f % 5 = 2)
    (hs : n % 1114112 < 55296 ∨ 57344 ≤ n % 1114112) (v : Nat) (hv : n % 256 = v) (hsz : s.size ≤ 50) (hsh : s = ⟨#[92]⟩ ++ strOfNums [48 + (v : Int) / 64, 48 + (v : Int) / 8 % 8, 48 + (v : Int) % 8])
    (hu : ∀ W, Below w.heap.size w W → Calls Tryz.prog 48 #[.string s, .int .u8 39] W (UqOk v W)) :
    Calls Tryz.prog 4 #[.int .u32 n, .int .u8 f] w fun e w' => e = .returned (.bool true) ∧ Below w.heap.size w w' := by
  have e256 : n % 1114112 % 256 = n % 256 := by omega
  have hvr : v < 256 := by omega
  obtain ⟨k2, h14⟩ := (of64_f v (by omega)).rounds
  have H14 := Aside0.mk h14
  have H11 := Aside0.mk (fun w1 hb => lit_at s v (by omega) (by omega) w w1 hb hu)
  have HV := Aside0.mk hv
  have E256 := Aside0.mk e256
  have HSH := Aside0.mk hsh
  have E8 := Aside0.mk (show n % 8 = (v : Int) % 8 by omega)
  clear hu h14 hv e256 hsz hsh
  go_enter Tryz.func4, Tryz.ntmps4
  go_wp2_with fail
  all_goals
    try rw [E256.out]
    rw [E8.out, HV.out]
    rw [run_convert_bytes_arg _ 44 5 Tryz.underlying44 Tryz.underlying5 w.heap.size 0 3 3 [48 + (v : Int) / 64, 48 + (v : Int) / 8 % 8, 48 + (v : Int) % 8] rfl (fun i hi => by
      have hc : i = 0 ∨ i = 1 ∨ i = 2 := by omega
      rcases hc with rfl | rfl | rfl <;> exact blk_cell (heap_alloc_new _ _) _) 9 Tryz.underlying9]
    have HB := Aside0.mk (below_alloc (Below.refl w.heap.size w) (.cells #[.int .u8 (48 + (v : Int) / 64), .int .u8 (48 + (v : Int) / 8 % 8), .int .u8 (48 + (v : Int) % 8)] 5))
    go_wp2_with fail
    rw [← HSH.out]
    refine (H11.out _ HB.out).mono ?_
    rintro e w2 ⟨A, c, rfl, hc, hC, hb⟩
    have HB2 := Aside0.mk (below_step HB.out hb)
    have HC := Aside0.mk hC
    have HCL := Aside0.mk hc
    clear hc hC hb
    go_wp2_with fail
    refine (spec_Of64.calls k2 _ _ _ _ _ H14.out).mono ?_
    rintro e w3 ⟨v1, v2, rfl, hV1, hR2, hb3⟩
    have hV2 := V_of_R (S := fun _ => True) (b := 0) hR2 (fun _ _ => trivial)
    obtain ⟨B1, d1, rfl⟩ := Kd.V_slice hV1
    obtain ⟨B2, d2, rfl⟩ := Kd.V_slice hV2
    have HB3 := Aside0.mk (below_step HB2.out hb3)
    have HC3 := Aside0.mk (Kd.C_below HC.out hb3)
    have HV1 := Aside0.mk (Kd.V_reads' hV1)
    have HV2 := Aside0.mk (Kd.V_reads' hV2)
    clear hV1 hR2 hV2 hb3
    go_wp2_with fail
    refine (isInt_true v (by omega) A c B1 d1 B2 d2 w3 HCL.out HC3.out HV1.out.2.2 HV1.out.2.1 HV2.out.2.2 HV2.out.2.1).mono ?_
    rintro e w4 ⟨rfl, hb4⟩
    have HB4 := Aside0.mk (below_step HB3.out hb4)
    clear hb4
    go_wp2_with fail
    go_ret
    exact ⟨rfl, HB4.out⟩
end Go.Proofs.YtgpoplfgngiilaaGreatDoor

namespace Go.Proofs.YtgpoplfgngiilaaGreatDoor
open Go.RowKit Go.Proofs.YtgpoplfgngiilaaGreatDoorW.PrintWords PAll Pl
set_option linter.unusedVariables false
set_option linter.unusedSimpArgs false

theorem two_of (a h : ByteArray) (m k : Nat) (ha : a.size = m) (hh : h.size = k) : (a ++ h).size = m + k := by rw [ByteArray.size_append, ha, hh]

theorem encs_len (v : Nat) : (encs v).length ≤ 4 := by
  unfold encs
  split
  · simp
  · split
    · simp
    · split <;> simp

theorem charLaw (n f : Int) (w : World) (hn0 : 0 ≤ n) (hn1 : n ≤ 4294967295) (hf0 : 0 ≤ f) (hf1 : f ≤ 255) (hT : Lib.Utf8Tabs 6 7 w) :
    Calls Tryz.prog 4 #[.int .u32 n, .int .u8 f] w fun e w' => e = .returned (.bool true) ∧ Below w.heap.size w w' := by
  have hn2 : n < 4294967296 := by omega
  have hf2 : f < 256 := by omega
  by_cases hsur : 55296 ≤ n % 1114112 ∧ n % 1114112 < 57344
  · exact char_sur n f w hn0 hn2 hf0 hf2 hsur.1 hsur.2
  · have hs : n % 1114112 < 55296 ∨ 57344 ≤ n % 1114112 := by omega
    obtain ⟨v, hv⟩ : ∃ v : Nat, n % 1114112 = v := ⟨(n % 1114112).toNat, by omega⟩
    obtain ⟨u, hu⟩ : ∃ u : Nat, n % 256 = u := ⟨(n % 256).toNat, by omega⟩
    have hv1 : v < 1114112 := by omega
    have hu1 : u < 256 := by omega
    have hsv : v < 55296 ∨ 57344 ≤ v := by omega
    rcases (by omega : f % 5 = 0 ∨ f % 5 = 1 ∨ f % 5 = 2 ∨ f % 5 = 3 ∨ f % 5 = 4) with hf | hf | hf | hf | hf
    · by_cases h39 : n % 1114112 = 39
      · exact char_39 n f w hn0 hn2 hf0 hf2 hf h39
      · by_cases h92 : n % 1114112 = 92
        · exact char_92 n f w hn0 hn2 hf0 hf2 hf h92
        · by_cases h10 : n % 1114112 = 10
          · exact char_10 n f w hn0 hn2 hf0 hf2 hf h10
          · have hsz := encs_len v
            refine char_arm0 n f (strOfNums (encs v)) w hn0 hn2 hf0 hf2 hf hs h39 h92 h10 v hv (encoded_is v hv1) (by rw [strOfNums_size]; omega) ?_
            exact fun W hW => uqh_rune v hv1 hsv (by omega) (by omega) W (Utf8Tabs_below hT hW)
    · obtain ⟨h, hh, hF, hsz⟩ := hex_f u 2 (by omega) (by omega) (by omega) (by omega)
      obtain ⟨k, hk⟩ := hh.rounds
      have hl := two_of ⟨#[92, 120]⟩ h 2 2 rfl hsz
      obtain ⟨s, e⟩ : ∃ s, s = (⟨#[92, 120]⟩ : ByteArray) ++ h := ⟨_, rfl⟩
      refine char_arm1 n f s h k w hn0 hn2 hf0 hf2 hf hs u hu hk hsz (by rw [e]; exact hl) e ?_
      intro W _
      rw [e]
      exact uqh_x h u hsz hF hu1 W
    · refine char_arm2 n f (⟨#[92]⟩ ++ strOfNums [48 + (u : Int) / 64, 48 + (u : Int) / 8 % 8, 48 + (u : Int) % 8]) w hn0 hn2 hf0 hf2 hf hs u hu (by rw [two_of _ _ 1 3 rfl (strOfNums_size _)]; omega) rfl ?_
      exact fun W _ => uqh_o u hu1 W
    · by_cases hr : 65535 < n % 1114112
      · exact char_arm3hi n f w hn0 hn2 hf0 hf2 hf hs hr
      · obtain ⟨h, hh, hF, hsz⟩ := hex_f v 4 (by omega) (by omega) (by omega) (by omega)
        obtain ⟨k, hk⟩ := hh.rounds
        have hl := two_of ⟨#[92, 117]⟩ h 2 4 rfl hsz
        obtain ⟨s, e⟩ : ∃ s, s = (⟨#[92, 117]⟩ : ByteArray) ++ h := ⟨_, rfl⟩
        refine char_arm3 n f s h k w hn0 hn2 hf0 hf2 hf hs (by omega) v hv hk (by rw [e]; omega) e ?_
        intro W _
        rw [e]
        exact uqh_u h v hsz hF (by omega) hsv W
    · obtain ⟨h, hh, hF, hsz⟩ := hex_f v 8 (by omega) (by omega) (by omega) (by omega)
      obtain ⟨k, hk⟩ := hh.rounds
      have hl := two_of ⟨#[92, 85]⟩ h 2 8 rfl hsz
      obtain ⟨s, e⟩ : ∃ s, s = (⟨#[92, 85]⟩ : ByteArray) ++ h := ⟨_, rfl⟩
      refine char_arm4 n f s h k w hn0 hn2 hf0 hf2 hf hs v hv hk (by rw [e]; omega) e ?_
      intro W _
      rw [e]
      exact uqh_U h v hsz hF hv1 hsv W
end Go.Proofs.YtgpoplfgngiilaaGreatDoor
