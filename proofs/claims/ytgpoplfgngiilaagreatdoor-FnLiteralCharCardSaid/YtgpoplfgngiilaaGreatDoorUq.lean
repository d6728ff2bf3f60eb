/- Uq0 strconv.UnquoteChar at a backslash and three figures of base 8. -/
import Derived.Test.YtgpoplfgngiilaaGreatDoorSE
import Derived.Test.YtgpoplfgngiilaaGreatDoorB0
namespace Go.Proofs.YtgpoplfgngiilaaGreatDoor
open Go.RowKit Go.Proofs.YtgpoplfgngiilaaGreatDoorW.PrintWords PAll

/-- What UnquoteChar answers, as far as MakeFromLiteral uses it. -/
def UqOk (v : Int) (w : World) (e : Ending) (w' : World) : Prop := ∃ (mb : Bool) (tail : ByteArray), e = .returned (.tuple #[.int .i32 v, .bool mb, .string tail, .nilIface]) ∧ Below w.heap.size w w'

set_option maxHeartbeats 400000 in
set_option maxRecDepth 100000 in
/-- A byte below 128 that is no quote and no backslash. -/
theorem uq_one (s : ByteArray) (w : World) (hs : s.size = 1) (h0 : 0 ≤ bt s 0) (h1 : bt s 0 < 128) (h39 : (bt s 0 == 39) = false) (h92' : (bt s 0 != 92) = true) :
    Calls Tryz.prog 48 #[.string s, .int .u8 39] w (UqOk (bt s 0) w) := by
  have hx0 : ∀ h : 0 < s.size, ((s[0]'h).toNat : Int) = bt s 0 := bt_at s 0
  have h128 : decide (128 ≤ bt s 0) = false := by simp; omega
  go_enter Tryz.func48, Tryz.ntmps48
  go_wp2_with fail
  go_quiet (fail)
  go_wp2
  refine bodyPost_ret (results_tmp4 rfl _ _ _) rfl ?_
  exact ⟨_, _, rfl, pw_below_drewN (Below.refl _ _) _⟩

/-- What DecodeRuneInString answers at s. -/
def DecOk (s : ByteArray) (v : Int) (z : Int) (w : World) : Prop := Calls Tryz.prog 75 #[.string s] w fun e w' => e = .returned (.tuple #[.int .i32 v, .int .i64 z]) ∧ Below w.heap.size w w'

set_option maxHeartbeats 400000 in
set_option maxRecDepth 100000 in
/-- A first byte from 128 on: what is decoded. -/
theorem uq_dec (s : ByteArray) (v z : Int) (w : World) (hs : 0 < s.size) (hz0 : 0 ≤ z) (hz : z ≤ s.size) (hm : (s.size : Int) ≤ 8) (h1 : 128 ≤ bt s 0) (h39 : (bt s 0 == 39) = false) (hd : DecOk s v z w) :
    Calls Tryz.prog 48 #[.string s, .int .u8 39] w (UqOk v w) := by
  have hx0 : ∀ h : 0 < s.size, ((s[0]'h).toNat : Int) = bt s 0 := bt_at s 0
  have h128 : decide (128 ≤ bt s 0) = true := by simp; omega
  have hne : ((s.size : Int) == 0) = false := by have : (s.size : Int) ≠ 0 := by omega
                                                 simpa using this
  go_enter Tryz.func48, Tryz.ntmps48
  go_wp2_with fail
  have hd' := hd
  unfold DecOk at hd'
  refine hd'.mono ?_
  rintro e w1 ⟨rfl, hb⟩
  have HB := Aside0.mk hb
  clear hd hd' hb
  go_wp2_with fail
  go_quiet (fail)
  go_wp2
  refine bodyPost_ret (results_tmp4 rfl _ _ _) rfl ?_
  exact ⟨_, _, rfl, pw_below_drewN HB.out _⟩



/-- The number that figures give, read one by one in base b. -/
def uqV (b : Int) (d : Nat → Int) : Nat → Int
  | 0 => 0
  | k + 1 => bits .or .i32 (wrap32 (uqV b d k * b)) (d k)

theorem bt_extract (s : ByteArray) (a b k : Nat) (h : k < (s.extract a b).size) : (((s.extract a b)[k]'h).toNat : Int) = bt s (a + k : Nat) := by
  have h2 : a + k < s.size := by simp at h; omega
  rw [ByteArray.getElem_extract]
  exact bt_at s ((a + k : Nat) : Int) h2

set_option maxHeartbeats 1000000 in
set_option maxRecDepth 100000 in
/-- A backslash, a letter, and 2 figures of base 16. -/
theorem uq_x (s : ByteArray) (w : World) (hs : s.size = 4) (h0 : bt s 0 = 92) (h1 : bt s 1 = 120) (d : Nat → Int) (K : Nat) (hd : ∀ j : Nat, j < 2 → strconv_unhex.f K (bt s (2 + j : Nat)) = some (d j, true)) :
    Calls Tryz.prog 48 #[.string s, .int .u8 39] w (UqOk (uqV 16 d 2) w) := by
  have hx0 : ∀ h : 0 < s.size, ((s[0]'h).toNat : Int) = bt s 0 := bt_at s 0
  have hx1 : ∀ h : 1 < s.size, ((s[1]'h).toNat : Int) = bt s 1 := bt_at s 1
  have HD := Lib.hid hd
  clear hd
  go_enter Tryz.func48, Tryz.ntmps48
  go_wp2_with fail
  clear hx0 hx1 h0 h1
  go_loopw [7, 13, 14, 15, 16] (fun z v i _ _ W => z = .nilIface ∧ ∃ k : Nat, k ≤ 2 ∧ i = .int .i64 k ∧ v = .int .i32 (uqV 16 d k) ∧ Below w.heap.size w W) (fun _ _ i _ _ _ => 2 - (intOf i).toNat)
  case atStart => exact ⟨rfl, 0, by omega, rfl, rfl, Below.refl _ _⟩
  case round =>
    obtain ⟨rfl, k, hk, rfl, rfl, HB⟩ := hrel
    have HB := Aside0.mk HB
    by_cases hlt : k < 2
    · have hlt' : (k : Int) < 2 := by omega
      have hxk : ∀ h : k < (s.extract 2 4).size, (((s.extract 2 4)[k]'h).toNat : Int) = bt s (2 + k : Nat) := bt_extract s 2 4 k
      have HV : Hid (uqV 16 d (k + 1) = bits .or .i32 (wrap32 (uqV 16 d k * 16)) (d k)) := rfl
      go_wp2_with fail
      refine (strconv_unhex.calls K _ (d k) true _ (HD.out k hlt)).mono ?_
      rintro e w' ⟨rfl, ⟨m, rfl⟩⟩
      go_wp2_with fail
      go_roundw
      case rel => exact ⟨rfl, k + 1, by omega, by go_num, by rw [HV.out], pw_below_drewN HB.out _⟩
      case measure => simp [intOf]; omega
    · obtain rfl : k = 2 := by omega
      go_wp2_with fail
      refine bodyPost_ret (results_tmp4 rfl _ _ _) rfl ?_
      exact ⟨_, _, rfl, HB.out⟩

set_option maxHeartbeats 1000000 in
set_option maxRecDepth 100000 in
/-- A backslash, a letter, and 4 figures of base 16. -/
theorem uq_u (s : ByteArray) (w : World) (hs : s.size = 6) (h0 : bt s 0 = 92) (h1 : bt s 1 = 117) (d : Nat → Int) (K : Nat) (hd : ∀ j : Nat, j < 4 → strconv_unhex.f K (bt s (2 + j : Nat)) = some (d j, true)) (kv : Nat) (hv : utf8_ValidRune.f kv (uqV 16 d 4) = some true) :
    Calls Tryz.prog 48 #[.string s, .int .u8 39] w (UqOk (uqV 16 d 4) w) := by
  have hx0 : ∀ h : 0 < s.size, ((s[0]'h).toNat : Int) = bt s 0 := bt_at s 0
  have hx1 : ∀ h : 1 < s.size, ((s[1]'h).toNat : Int) = bt s 1 := bt_at s 1
  have HD := Lib.hid hd
  clear hd
  go_enter Tryz.func48, Tryz.ntmps48
  go_wp2_with fail
  clear hx0 hx1 h0 h1
  go_loopw [7, 13, 14, 15, 16] (fun z v i _ _ W => z = .nilIface ∧ ∃ k : Nat, k ≤ 4 ∧ i = .int .i64 k ∧ v = .int .i32 (uqV 16 d k) ∧ Below w.heap.size w W) (fun _ _ i _ _ _ => 4 - (intOf i).toNat)
  case atStart => exact ⟨rfl, 0, by omega, rfl, rfl, Below.refl _ _⟩
  case round =>
    obtain ⟨rfl, k, hk, rfl, rfl, HB⟩ := hrel
    have HB := Aside0.mk HB
    by_cases hlt : k < 4
    · have hlt' : (k : Int) < 4 := by omega
      have hxk : ∀ h : k < (s.extract 2 6).size, (((s.extract 2 6)[k]'h).toNat : Int) = bt s (2 + k : Nat) := bt_extract s 2 6 k
      have HV : Hid (uqV 16 d (k + 1) = bits .or .i32 (wrap32 (uqV 16 d k * 16)) (d k)) := rfl
      go_wp2_with fail
      refine (strconv_unhex.calls K _ (d k) true _ (HD.out k hlt)).mono ?_
      rintro e w' ⟨rfl, ⟨m, rfl⟩⟩
      go_wp2_with fail
      go_roundw
      case rel => exact ⟨rfl, k + 1, by omega, by go_num, by rw [HV.out], pw_below_drewN HB.out _⟩
      case measure => simp [intOf]; omega
    · obtain rfl : k = 4 := by omega
      go_wp2_with fail
      refine (utf8_ValidRune.calls kv _ true _ hv).mono ?_
      rintro e w' ⟨rfl, ⟨m, rfl⟩⟩
      go_wp2_with fail
      refine bodyPost_ret (results_tmp4 rfl _ _ _) rfl ?_
      exact ⟨_, _, rfl, pw_below_drewN HB.out _⟩

set_option maxHeartbeats 1000000 in
set_option maxRecDepth 100000 in
/-- A backslash, a letter, and 8 figures of base 16. -/
theorem uq_U (s : ByteArray) (w : World) (hs : s.size = 10) (h0 : bt s 0 = 92) (h1 : bt s 1 = 85) (d : Nat → Int) (K : Nat) (hd : ∀ j : Nat, j < 8 → strconv_unhex.f K (bt s (2 + j : Nat)) = some (d j, true)) (kv : Nat) (hv : utf8_ValidRune.f kv (uqV 16 d 8) = some true) :
    Calls Tryz.prog 48 #[.string s, .int .u8 39] w (UqOk (uqV 16 d 8) w) := by
  have hx0 : ∀ h : 0 < s.size, ((s[0]'h).toNat : Int) = bt s 0 := bt_at s 0
  have hx1 : ∀ h : 1 < s.size, ((s[1]'h).toNat : Int) = bt s 1 := bt_at s 1
  have HD := Lib.hid hd
  clear hd
  go_enter Tryz.func48, Tryz.ntmps48
  go_wp2_with fail
  clear hx0 hx1 h0 h1
  go_loopw [7, 13, 14, 15, 16] (fun z v i _ _ W => z = .nilIface ∧ ∃ k : Nat, k ≤ 8 ∧ i = .int .i64 k ∧ v = .int .i32 (uqV 16 d k) ∧ Below w.heap.size w W) (fun _ _ i _ _ _ => 8 - (intOf i).toNat)
  case atStart => exact ⟨rfl, 0, by omega, rfl, rfl, Below.refl _ _⟩
  case round =>
    obtain ⟨rfl, k, hk, rfl, rfl, HB⟩ := hrel
    have HB := Aside0.mk HB
    by_cases hlt : k < 8
    · have hlt' : (k : Int) < 8 := by omega
      have hxk : ∀ h : k < (s.extract 2 10).size, (((s.extract 2 10)[k]'h).toNat : Int) = bt s (2 + k : Nat) := bt_extract s 2 10 k
      have HV : Hid (uqV 16 d (k + 1) = bits .or .i32 (wrap32 (uqV 16 d k * 16)) (d k)) := rfl
      go_wp2_with fail
      refine (strconv_unhex.calls K _ (d k) true _ (HD.out k hlt)).mono ?_
      rintro e w' ⟨rfl, ⟨m, rfl⟩⟩
      go_wp2_with fail
      go_roundw
      case rel => exact ⟨rfl, k + 1, by omega, by go_num, by rw [HV.out], pw_below_drewN HB.out _⟩
      case measure => simp [intOf]; omega
    · obtain rfl : k = 8 := by omega
      go_wp2_with fail
      refine (utf8_ValidRune.calls kv _ true _ hv).mono ?_
      rintro e w' ⟨rfl, ⟨m, rfl⟩⟩
      go_wp2_with fail
      refine bodyPost_ret (results_tmp4 rfl _ _ _) rfl ?_
      exact ⟨_, _, rfl, pw_below_drewN HB.out _⟩

end Go.Proofs.YtgpoplfgngiilaaGreatDoor

namespace Go.Proofs.YtgpoplfgngiilaaGreatDoor
open Go.RowKit Go.Proofs.YtgpoplfgngiilaaGreatDoorW.PrintWords PAll
theorem or8 (x y : Int) (h0 : 0 ≤ x) (h1 : x ≤ 63) (h2 : 0 ≤ y) (h3 : y ≤ 7) : bits .or .i32 (x * 8) y = x * 8 + y :=
  bits_join .i32 31 (by decide) wraps_i32 3 (x * 8) y (by omega) (by omega) (by omega) (by omega) (by omega) (by omega)

set_option maxHeartbeats 2000000 in
set_option maxRecDepth 100000 in
/-- A backslash and three figures of base 8. -/
theorem uq_o (s : ByteArray) (w : World) (hs : s.size = 4) (h0 : bt s 0 = 92) (ha0 : 48 ≤ bt s 1) (ha : bt s 1 ≤ 51) (hb0 : 48 ≤ bt s 2) (hb : bt s 2 ≤ 55) (hc0 : 48 ≤ bt s 3) (hc : bt s 3 ≤ 55) :
    Calls Tryz.prog 48 #[.string s, .int .u8 39] w (UqOk ((bt s 1 - 48) * 64 + (bt s 2 - 48) * 8 + (bt s 3 - 48)) w) := by
  have hx0 : ∀ h : 0 < s.size, ((s[0]'h).toNat : Int) = bt s 0 := bt_at s 0
  have hx1 : ∀ h : 1 < s.size, ((s[1]'h).toNat : Int) = bt s 1 := bt_at s 1
  have hy0 : ∀ h : 0 < (s.extract 2 4).size, (((s.extract 2 4)[0]'h).toNat : Int) = bt s 2 := bt_extract s 2 4 0
  have hy1 : ∀ h : 1 < (s.extract 2 4).size, (((s.extract 2 4)[1]'h).toNat : Int) = bt s 3 := bt_extract s 2 4 1
  have e1 : bits .or .i32 ((bt s 1 - 48) * 8) (bt s 2 - 48) = (bt s 1 - 48) * 8 + (bt s 2 - 48) := or8 _ _ (by omega) (by omega) (by omega) (by omega)
  have e2 : bits .or .i32 (((bt s 1 - 48) * 8 + (bt s 2 - 48)) * 8) (bt s 3 - 48) = ((bt s 1 - 48) * 8 + (bt s 2 - 48)) * 8 + (bt s 3 - 48) := or8 _ _ (by omega) (by omega) (by omega) (by omega)
  have HF : ∀ w' : World, Below w.heap.size w w' → ∀ V : Int, V = (bt s 1 - 48) * 64 + (bt s 2 - 48) * 8 + (bt s 3 - 48) → ∀ mb tl, UqOk ((bt s 1 - 48) * 64 + (bt s 2 - 48) * 8 + (bt s 3 - 48)) w (.returned (.tuple #[.int .i32 V, .bool mb, .string tl, .nilIface])) w' := by
    rintro w' hb V rfl mb tl
    exact ⟨_, _, rfl, hb⟩
  have HF := Aside0.mk HF
  go_enter Tryz.func48, Tryz.ntmps48
  go_wp2_with fail
  all_goals
    refine wp_loop_rounds 3 ?_
    rw [rounds_succ]
    go_wp2_with fail
    rw [rounds_succ]
    go_wp2_with fail
    rw [rounds_succ]
    go_wp2_with fail
    refine bodyPost_ret (results_tmp4 rfl _ _ _) rfl ?_
    exact HF.out _ (Below.refl _ _) _ (by omega) _ _
end Go.Proofs.YtgpoplfgngiilaaGreatDoor
