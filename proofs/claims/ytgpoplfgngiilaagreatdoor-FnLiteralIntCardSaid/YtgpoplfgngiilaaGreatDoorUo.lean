/- internal/strconv's underscoreOK answers true at figures with a prefix or none, an underscore only between two of them. (wip/gen/uo.py wrote it.) -/
import Derived.Test.YtgpoplfgngiilaaGreatDoorPu
set_option linter.unusedVariables false
set_option linter.unusedSimpArgs false
namespace Go.Proofs.YtgpoplfgngiilaaGreatDoor
open Go.RowKit Go.Proofs.YtgpoplfgngiilaaGreatDoorW.PrintWords Go.Proofs.YtgpoplfgngiilaaGreatDoorW.PrintLast Go.Proofs.YtgpoplfgngiilaaGreatDoorW.PrintMore PAll Pl

/-- What underscoreOK has seen last, ahead of byte k. -/
def sawAt (s : ByteArray) (i0 : Nat) (s0 : Int) (k : Nat) : Int := if k = i0 then s0 else if bt s (k - 1 : Nat) = 95 then 95 else 48
theorem saw_und (s : ByteArray) (i0 : Nat) (s0 : Int) (k : Nat) (h : i0 ≤ k) (hc : bt s k = 95) : 95 = sawAt s i0 s0 (k + 1) := by
  unfold sawAt; rw [if_neg (by omega), Nat.add_sub_cancel, if_pos hc]
theorem saw_fig (s : ByteArray) (i0 : Nat) (s0 : Int) (k : Nat) (h : i0 ≤ k) (hc : bt s k ≠ 95) : 48 = sawAt s i0 s0 (k + 1) := by
  unfold sawAt; rw [if_neg (by omega), Nat.add_sub_cancel, if_neg hc]
theorem saw_at (s : ByteArray) (i0 : Nat) (s0 : Int) : s0 = sawAt s i0 s0 i0 := (if_pos rfl).symm

set_option maxHeartbeats 4000000 in
set_option maxRecDepth 100000 in
theorem uo_10 (s : ByteArray) (w : World) (hs : 0 < s.size) (hm : s.size ≤ 100000) (h0 : bt s 0 ≠ 48) (h45 : bt s 0 ≠ 45) (h43 : bt s 0 ≠ 43)
    (hfig : ∀ j : Nat, 0 ≤ j → j < s.size → (bt s j = 95 ∧ sawAt s 0 94 j = 48) ∨ (48 ≤ bt s j ∧ bt s j ≤ 57)) (hlast : sawAt s 0 94 s.size ≠ 95) :
    Calls Tryz.prog 141 #[.string s] w fun e w' => e = .returned (.bool true) ∧ Below w.heap.size w w' := by
  have hx0 : ∀ h : 0 < s.size, ((s[0]'h).toNat : Int) = bt s 0 := bt_at s 0
  have b0 : (bt s 0 == 48) = false := by simpa using h0
  have b1 : (bt s 0 == 45) = false := by simpa using h45
  have b2 : (bt s 0 == 43) = false := by simpa using h43
  have b4 : decide (1 ≤ (s.size : Int)) = true := decide_eq_true (by omega)
  have HF := Lib.hid hfig
  have HL := Aside0.mk hlast
  clear hfig hlast h45 h43 h0
  go_enter Tryz.func141, Tryz.ntmps141
  go_wp2_with fail
  all_goals
    clear hx0
    go_loopw [2, 3, 4] (fun r sw i W => ∃ (k : Nat) (x : Int), 0 ≤ k ∧ k ≤ s.size ∧ i = .int .i64 k ∧ sw = .int .i32 x ∧ Aside0 (x = sawAt s 0 94 k) ∧ Below w.heap.size w W) (fun _ _ i _ => s.size - (intOf i).toNat)
    case atStart => exact ⟨0, 94, by omega, by omega, rfl, rfl, ⟨saw_at _ _ _⟩, by first | exact Below.refl _ _ | exact pw_below_drewN (Below.refl _ _) _⟩
    case round =>
      obtain ⟨k, x, hk0, hk, rfl, rfl, hx, HB⟩ := hrel
      have HB := Aside0.mk HB
      by_cases hlt : k < s.size
      · have hlt' : (k : Int) < s.size := by omega
        have hxk : ∀ h : k < s.size, ((s[k]'h).toNat : Int) = bt s (k : Nat) := fun h => (bt_nat s k h).symm
        have hfk := HF.out k hk0 hlt
        obtain ⟨c, hc⟩ : ∃ c, bt s (k : Nat) = c := ⟨_, rfl⟩
        rw [hc] at hxk hfk
        have HC := Aside0.mk hc
        clear hc
        rcases hfk with ⟨rfl, hsw⟩ | ⟨h48, h57⟩
        · rw [← hx.out] at hsw
          subst hsw
          go_wp2_with (refine (lower_any _ _).mono ?_; rintro e w9 ⟨rfl, rfl⟩; rw [show bits .or .u8 95 32 = 127 from by decide +kernel])
          all_goals
            go_roundw
            case rel => exact ⟨k + 1, _, by omega, by omega, by go_num, rfl, ⟨saw_und s 0 94 k (by omega) HC.out⟩, by first | exact HB.out | exact pw_below_drewN HB.out _⟩
            case measure => simp [intOf]; omega
        · go_wp2_with fail
          all_goals
            go_roundw
            case rel => exact ⟨k + 1, _, by omega, by omega, by go_num, rfl, ⟨saw_fig s 0 94 k (by omega) (by rw [HC.out]; omega)⟩, by first | exact HB.out | exact pw_below_drewN HB.out _⟩
            case measure => simp [intOf]; omega
      · obtain rfl : k = s.size := by omega
        have hl2 : decide ((s.size : Int) < s.size) = false := decide_eq_false (by omega)
        have hlx : (x != 95) = true := by rw [hx.out]; simpa using HL.out
        go_wp2_with fail
        all_goals
          go_ret
          exact ⟨by first | rfl | (rw [hlx]), by first | exact HB.out | exact pw_below_drewN HB.out _⟩

set_option maxHeartbeats 4000000 in
set_option maxRecDepth 100000 in
theorem uo_x (s : ByteArray) (w : World) (hs : 0 < s.size) (hm : s.size ≤ 100000) (h2 : 2 ≤ s.size) (h0 : bt s 0 = 48) (h1 : bt s 1 = 120 ∨ bt s 1 = 88) (h45 : bt s 0 ≠ 45) (h43 : bt s 0 ≠ 43)
    (hfig : ∀ j : Nat, 2 ≤ j → j < s.size → (bt s j = 95 ∧ sawAt s 2 48 j = 48) ∨ (48 ≤ bt s j ∧ bt s j ≤ 57) ∨ (65 ≤ bt s j ∧ bt s j ≤ 70) ∨ (97 ≤ bt s j ∧ bt s j ≤ 102)) (hlast : sawAt s 2 48 s.size ≠ 95) :
    Calls Tryz.prog 141 #[.string s] w fun e w' => e = .returned (.bool true) ∧ Below w.heap.size w w' := by
  have hx0 : ∀ h : 0 < s.size, ((s[0]'h).toNat : Int) = bt s 0 := bt_at s 0
  have b0 : (bt s 0 == 48) = true := by simpa using h0
  have b3 : decide (2 ≤ (s.size : Int)) = true := decide_eq_true (by omega)
  have hx1 : ∀ h : 1 < s.size, ((s[1]'h).toNat : Int) = bt s 1 := bt_at s 1
  have hl : bits .or .u8 (bt s 1) 32 = 120 := by rcases h1 with h | h <;> rw [h] <;> decide +kernel
  have HL8 := Aside0.mk hl
  clear h1 hl
  have b1 : (bt s 0 == 45) = false := by simpa using h45
  have b2 : (bt s 0 == 43) = false := by simpa using h43
  have b4 : decide (1 ≤ (s.size : Int)) = true := decide_eq_true (by omega)
  have HF := Lib.hid hfig
  have HL := Aside0.mk hlast
  clear hfig hlast h45 h43 h0
  go_enter Tryz.func141, Tryz.ntmps141
  go_wp2_with (refine (lower_any _ _).mono ?_; rintro e w9 ⟨rfl, rfl⟩; rw [HL8.out])
  all_goals
    clear hx0 hx1
    go_loopw [2, 3, 4] (fun r sw i W => ∃ (k : Nat) (x : Int), 2 ≤ k ∧ k ≤ s.size ∧ i = .int .i64 k ∧ sw = .int .i32 x ∧ Aside0 (x = sawAt s 2 48 k) ∧ Below w.heap.size w W) (fun _ _ i _ => s.size - (intOf i).toNat)
    case atStart => exact ⟨2, 48, by omega, by omega, rfl, rfl, ⟨saw_at _ _ _⟩, by first | exact Below.refl _ _ | exact pw_below_drewN (Below.refl _ _) _⟩
    case round =>
      obtain ⟨k, x, hk0, hk, rfl, rfl, hx, HB⟩ := hrel
      have HB := Aside0.mk HB
      by_cases hlt : k < s.size
      · have hlt' : (k : Int) < s.size := by omega
        have hxk : ∀ h : k < s.size, ((s[k]'h).toNat : Int) = bt s (k : Nat) := fun h => (bt_nat s k h).symm
        have hfk := HF.out k hk0 hlt
        obtain ⟨c, hc⟩ : ∃ c, bt s (k : Nat) = c := ⟨_, rfl⟩
        rw [hc] at hxk hfk
        have HC := Aside0.mk hc
        clear hc
        rcases hfk with ⟨rfl, hsw⟩ | ⟨h48, h57⟩ | ⟨h48, h57⟩ | ⟨h48, h57⟩
        · rw [← hx.out] at hsw
          subst hsw
          go_wp2_with (refine (lower_any _ _).mono ?_; rintro e w9 ⟨rfl, rfl⟩; rw [show bits .or .u8 95 32 = 127 from by decide +kernel])
          all_goals
            go_roundw
            case rel => exact ⟨k + 1, _, by omega, by omega, by go_num, rfl, ⟨saw_und s 2 48 k (by omega) HC.out⟩, by first | exact HB.out | exact pw_below_drewN HB.out _⟩
            case measure => simp [intOf]; omega
        · go_wp2_with fail
          all_goals
            go_roundw
            case rel => exact ⟨k + 1, _, by omega, by omega, by go_num, rfl, ⟨saw_fig s 2 48 k (by omega) (by rw [HC.out]; omega)⟩, by first | exact HB.out | exact pw_below_drewN HB.out _⟩
            case measure => simp [intOf]; omega
        · have hlow : bits .or .u8 c 32 = c + 32 := lower_up c (by omega) (by omega)
          have HLO := Aside0.mk hlow
          clear hlow
          go_wp2_with (refine (lower_any _ _).mono ?_; rintro e w9 ⟨rfl, rfl⟩; rw [HLO.out])
          all_goals
            go_roundw
            case rel => exact ⟨k + 1, _, by omega, by omega, by go_num, rfl, ⟨saw_fig s 2 48 k (by omega) (by rw [HC.out]; omega)⟩, by first | exact HB.out | exact pw_below_drewN HB.out _⟩
            case measure => simp [intOf]; omega
        · have hlow : bits .or .u8 c 32 = c := lower_lo c (by omega) (by omega)
          have HLO := Aside0.mk hlow
          clear hlow
          go_wp2_with (refine (lower_any _ _).mono ?_; rintro e w9 ⟨rfl, rfl⟩; rw [HLO.out])
          all_goals
            go_roundw
            case rel => exact ⟨k + 1, _, by omega, by omega, by go_num, rfl, ⟨saw_fig s 2 48 k (by omega) (by rw [HC.out]; omega)⟩, by first | exact HB.out | exact pw_below_drewN HB.out _⟩
            case measure => simp [intOf]; omega
      · obtain rfl : k = s.size := by omega
        have hl2 : decide ((s.size : Int) < s.size) = false := decide_eq_false (by omega)
        have hlx : (x != 95) = true := by rw [hx.out]; simpa using HL.out
        go_wp2_with fail
        all_goals
          go_ret
          exact ⟨by first | rfl | (rw [hlx]), by first | exact HB.out | exact pw_below_drewN HB.out _⟩

set_option maxHeartbeats 4000000 in
set_option maxRecDepth 100000 in
theorem uo_b (s : ByteArray) (w : World) (hs : 0 < s.size) (hm : s.size ≤ 100000) (h2 : 2 ≤ s.size) (h0 : bt s 0 = 48) (h1 : bt s 1 = 98 ∨ bt s 1 = 66) (h45 : bt s 0 ≠ 45) (h43 : bt s 0 ≠ 43)
    (hfig : ∀ j : Nat, 2 ≤ j → j < s.size → (bt s j = 95 ∧ sawAt s 2 48 j = 48) ∨ (48 ≤ bt s j ∧ bt s j ≤ 57)) (hlast : sawAt s 2 48 s.size ≠ 95) :
    Calls Tryz.prog 141 #[.string s] w fun e w' => e = .returned (.bool true) ∧ Below w.heap.size w w' := by
  have hx0 : ∀ h : 0 < s.size, ((s[0]'h).toNat : Int) = bt s 0 := bt_at s 0
  have b0 : (bt s 0 == 48) = true := by simpa using h0
  have b3 : decide (2 ≤ (s.size : Int)) = true := decide_eq_true (by omega)
  have hx1 : ∀ h : 1 < s.size, ((s[1]'h).toNat : Int) = bt s 1 := bt_at s 1
  have hl : bits .or .u8 (bt s 1) 32 = 98 := by rcases h1 with h | h <;> rw [h] <;> decide +kernel
  have HL8 := Aside0.mk hl
  clear h1 hl
  have b1 : (bt s 0 == 45) = false := by simpa using h45
  have b2 : (bt s 0 == 43) = false := by simpa using h43
  have b4 : decide (1 ≤ (s.size : Int)) = true := decide_eq_true (by omega)
  have HF := Lib.hid hfig
  have HL := Aside0.mk hlast
  clear hfig hlast h45 h43 h0
  go_enter Tryz.func141, Tryz.ntmps141
  go_wp2_with (refine (lower_any _ _).mono ?_; rintro e w9 ⟨rfl, rfl⟩; rw [HL8.out])
  all_goals
    clear hx0 hx1
    go_loopw [2, 3, 4] (fun r sw i W => ∃ (k : Nat) (x : Int), 2 ≤ k ∧ k ≤ s.size ∧ i = .int .i64 k ∧ sw = .int .i32 x ∧ Aside0 (x = sawAt s 2 48 k) ∧ Below w.heap.size w W) (fun _ _ i _ => s.size - (intOf i).toNat)
    case atStart => exact ⟨2, 48, by omega, by omega, rfl, rfl, ⟨saw_at _ _ _⟩, by first | exact Below.refl _ _ | exact pw_below_drewN (Below.refl _ _) _⟩
    case round =>
      obtain ⟨k, x, hk0, hk, rfl, rfl, hx, HB⟩ := hrel
      have HB := Aside0.mk HB
      by_cases hlt : k < s.size
      · have hlt' : (k : Int) < s.size := by omega
        have hxk : ∀ h : k < s.size, ((s[k]'h).toNat : Int) = bt s (k : Nat) := fun h => (bt_nat s k h).symm
        have hfk := HF.out k hk0 hlt
        obtain ⟨c, hc⟩ : ∃ c, bt s (k : Nat) = c := ⟨_, rfl⟩
        rw [hc] at hxk hfk
        have HC := Aside0.mk hc
        clear hc
        rcases hfk with ⟨rfl, hsw⟩ | ⟨h48, h57⟩
        · rw [← hx.out] at hsw
          subst hsw
          go_wp2_with (refine (lower_any _ _).mono ?_; rintro e w9 ⟨rfl, rfl⟩; rw [show bits .or .u8 95 32 = 127 from by decide +kernel])
          all_goals
            go_roundw
            case rel => exact ⟨k + 1, _, by omega, by omega, by go_num, rfl, ⟨saw_und s 2 48 k (by omega) HC.out⟩, by first | exact HB.out | exact pw_below_drewN HB.out _⟩
            case measure => simp [intOf]; omega
        · go_wp2_with fail
          all_goals
            go_roundw
            case rel => exact ⟨k + 1, _, by omega, by omega, by go_num, rfl, ⟨saw_fig s 2 48 k (by omega) (by rw [HC.out]; omega)⟩, by first | exact HB.out | exact pw_below_drewN HB.out _⟩
            case measure => simp [intOf]; omega
      · obtain rfl : k = s.size := by omega
        have hl2 : decide ((s.size : Int) < s.size) = false := decide_eq_false (by omega)
        have hlx : (x != 95) = true := by rw [hx.out]; simpa using HL.out
        go_wp2_with fail
        all_goals
          go_ret
          exact ⟨by first | rfl | (rw [hlx]), by first | exact HB.out | exact pw_below_drewN HB.out _⟩

set_option maxHeartbeats 4000000 in
set_option maxRecDepth 100000 in
theorem uo_o (s : ByteArray) (w : World) (hs : 0 < s.size) (hm : s.size ≤ 100000) (h2 : 2 ≤ s.size) (h0 : bt s 0 = 48) (h1 : bt s 1 = 111 ∨ bt s 1 = 79) (h45 : bt s 0 ≠ 45) (h43 : bt s 0 ≠ 43)
    (hfig : ∀ j : Nat, 2 ≤ j → j < s.size → (bt s j = 95 ∧ sawAt s 2 48 j = 48) ∨ (48 ≤ bt s j ∧ bt s j ≤ 57)) (hlast : sawAt s 2 48 s.size ≠ 95) :
    Calls Tryz.prog 141 #[.string s] w fun e w' => e = .returned (.bool true) ∧ Below w.heap.size w w' := by
  have hx0 : ∀ h : 0 < s.size, ((s[0]'h).toNat : Int) = bt s 0 := bt_at s 0
  have b0 : (bt s 0 == 48) = true := by simpa using h0
  have b3 : decide (2 ≤ (s.size : Int)) = true := decide_eq_true (by omega)
  have hx1 : ∀ h : 1 < s.size, ((s[1]'h).toNat : Int) = bt s 1 := bt_at s 1
  have hl : bits .or .u8 (bt s 1) 32 = 111 := by rcases h1 with h | h <;> rw [h] <;> decide +kernel
  have HL8 := Aside0.mk hl
  clear h1 hl
  have b1 : (bt s 0 == 45) = false := by simpa using h45
  have b2 : (bt s 0 == 43) = false := by simpa using h43
  have b4 : decide (1 ≤ (s.size : Int)) = true := decide_eq_true (by omega)
  have HF := Lib.hid hfig
  have HL := Aside0.mk hlast
  clear hfig hlast h45 h43 h0
  go_enter Tryz.func141, Tryz.ntmps141
  go_wp2_with (refine (lower_any _ _).mono ?_; rintro e w9 ⟨rfl, rfl⟩; rw [HL8.out])
  all_goals
    clear hx0 hx1
    go_loopw [2, 3, 4] (fun r sw i W => ∃ (k : Nat) (x : Int), 2 ≤ k ∧ k ≤ s.size ∧ i = .int .i64 k ∧ sw = .int .i32 x ∧ Aside0 (x = sawAt s 2 48 k) ∧ Below w.heap.size w W) (fun _ _ i _ => s.size - (intOf i).toNat)
    case atStart => exact ⟨2, 48, by omega, by omega, rfl, rfl, ⟨saw_at _ _ _⟩, by first | exact Below.refl _ _ | exact pw_below_drewN (Below.refl _ _) _⟩
    case round =>
      obtain ⟨k, x, hk0, hk, rfl, rfl, hx, HB⟩ := hrel
      have HB := Aside0.mk HB
      by_cases hlt : k < s.size
      · have hlt' : (k : Int) < s.size := by omega
        have hxk : ∀ h : k < s.size, ((s[k]'h).toNat : Int) = bt s (k : Nat) := fun h => (bt_nat s k h).symm
        have hfk := HF.out k hk0 hlt
        obtain ⟨c, hc⟩ : ∃ c, bt s (k : Nat) = c := ⟨_, rfl⟩
        rw [hc] at hxk hfk
        have HC := Aside0.mk hc
        clear hc
        rcases hfk with ⟨rfl, hsw⟩ | ⟨h48, h57⟩
        · rw [← hx.out] at hsw
          subst hsw
          go_wp2_with (refine (lower_any _ _).mono ?_; rintro e w9 ⟨rfl, rfl⟩; rw [show bits .or .u8 95 32 = 127 from by decide +kernel])
          all_goals
            go_roundw
            case rel => exact ⟨k + 1, _, by omega, by omega, by go_num, rfl, ⟨saw_und s 2 48 k (by omega) HC.out⟩, by first | exact HB.out | exact pw_below_drewN HB.out _⟩
            case measure => simp [intOf]; omega
        · go_wp2_with fail
          all_goals
            go_roundw
            case rel => exact ⟨k + 1, _, by omega, by omega, by go_num, rfl, ⟨saw_fig s 2 48 k (by omega) (by rw [HC.out]; omega)⟩, by first | exact HB.out | exact pw_below_drewN HB.out _⟩
            case measure => simp [intOf]; omega
      · obtain rfl : k = s.size := by omega
        have hl2 : decide ((s.size : Int) < s.size) = false := decide_eq_false (by omega)
        have hlx : (x != 95) = true := by rw [hx.out]; simpa using HL.out
        go_wp2_with fail
        all_goals
          go_ret
          exact ⟨by first | rfl | (rw [hlx]), by first | exact HB.out | exact pw_below_drewN HB.out _⟩

set_option maxHeartbeats 4000000 in
set_option maxRecDepth 100000 in
theorem uo_8s (s : ByteArray) (w : World) (hs : 0 < s.size) (hm : s.size ≤ 100000) (h1 : s.size = 1) (h0 : bt s 0 = 48) (h45 : bt s 0 ≠ 45) (h43 : bt s 0 ≠ 43)
    (hfig : ∀ j : Nat, 0 ≤ j → j < s.size → (bt s j = 95 ∧ sawAt s 0 94 j = 48) ∨ (48 ≤ bt s j ∧ bt s j ≤ 57)) (hlast : sawAt s 0 94 s.size ≠ 95) :
    Calls Tryz.prog 141 #[.string s] w fun e w' => e = .returned (.bool true) ∧ Below w.heap.size w w' := by
  have hx0 : ∀ h : 0 < s.size, ((s[0]'h).toNat : Int) = bt s 0 := bt_at s 0
  have b0 : (bt s 0 == 48) = true := by simpa using h0
  have b3 : decide (2 ≤ (s.size : Int)) = false := decide_eq_false (by omega)
  have b1 : (bt s 0 == 45) = false := by simpa using h45
  have b2 : (bt s 0 == 43) = false := by simpa using h43
  have b4 : decide (1 ≤ (s.size : Int)) = true := decide_eq_true (by omega)
  have HF := Lib.hid hfig
  have HL := Aside0.mk hlast
  clear hfig hlast h45 h43 h0
  go_enter Tryz.func141, Tryz.ntmps141
  go_wp2_with fail
  all_goals
    clear hx0
    go_loopw [2, 3, 4] (fun r sw i W => ∃ (k : Nat) (x : Int), 0 ≤ k ∧ k ≤ s.size ∧ i = .int .i64 k ∧ sw = .int .i32 x ∧ Aside0 (x = sawAt s 0 94 k) ∧ Below w.heap.size w W) (fun _ _ i _ => s.size - (intOf i).toNat)
    case atStart => exact ⟨0, 94, by omega, by omega, rfl, rfl, ⟨saw_at _ _ _⟩, by first | exact Below.refl _ _ | exact pw_below_drewN (Below.refl _ _) _⟩
    case round =>
      obtain ⟨k, x, hk0, hk, rfl, rfl, hx, HB⟩ := hrel
      have HB := Aside0.mk HB
      by_cases hlt : k < s.size
      · have hlt' : (k : Int) < s.size := by omega
        have hxk : ∀ h : k < s.size, ((s[k]'h).toNat : Int) = bt s (k : Nat) := fun h => (bt_nat s k h).symm
        have hfk := HF.out k hk0 hlt
        obtain ⟨c, hc⟩ : ∃ c, bt s (k : Nat) = c := ⟨_, rfl⟩
        rw [hc] at hxk hfk
        have HC := Aside0.mk hc
        clear hc
        rcases hfk with ⟨rfl, hsw⟩ | ⟨h48, h57⟩
        · rw [← hx.out] at hsw
          subst hsw
          go_wp2_with (refine (lower_any _ _).mono ?_; rintro e w9 ⟨rfl, rfl⟩; rw [show bits .or .u8 95 32 = 127 from by decide +kernel])
          all_goals
            go_roundw
            case rel => exact ⟨k + 1, _, by omega, by omega, by go_num, rfl, ⟨saw_und s 0 94 k (by omega) HC.out⟩, by first | exact HB.out | exact pw_below_drewN HB.out _⟩
            case measure => simp [intOf]; omega
        · go_wp2_with fail
          all_goals
            go_roundw
            case rel => exact ⟨k + 1, _, by omega, by omega, by go_num, rfl, ⟨saw_fig s 0 94 k (by omega) (by rw [HC.out]; omega)⟩, by first | exact HB.out | exact pw_below_drewN HB.out _⟩
            case measure => simp [intOf]; omega
      · obtain rfl : k = s.size := by omega
        have hl2 : decide ((s.size : Int) < s.size) = false := decide_eq_false (by omega)
        have hlx : (x != 95) = true := by rw [hx.out]; simpa using HL.out
        go_wp2_with fail
        all_goals
          go_ret
          exact ⟨by first | rfl | (rw [hlx]), by first | exact HB.out | exact pw_below_drewN HB.out _⟩

set_option maxHeartbeats 4000000 in
set_option maxRecDepth 100000 in
theorem uo_8l (s : ByteArray) (w : World) (hs : 0 < s.size) (hm : s.size ≤ 100000) (h2 : 2 ≤ s.size) (h0 : bt s 0 = 48) (h1 : 48 ≤ bt s 1 ∧ bt s 1 ≤ 57) (h45 : bt s 0 ≠ 45) (h43 : bt s 0 ≠ 43)
    (hfig : ∀ j : Nat, 0 ≤ j → j < s.size → (bt s j = 95 ∧ sawAt s 0 94 j = 48) ∨ (48 ≤ bt s j ∧ bt s j ≤ 57)) (hlast : sawAt s 0 94 s.size ≠ 95) :
    Calls Tryz.prog 141 #[.string s] w fun e w' => e = .returned (.bool true) ∧ Below w.heap.size w w' := by
  have hx0 : ∀ h : 0 < s.size, ((s[0]'h).toNat : Int) = bt s 0 := bt_at s 0
  have b0 : (bt s 0 == 48) = true := by simpa using h0
  have b3 : decide (2 ≤ (s.size : Int)) = true := decide_eq_true (by omega)
  have hx1 : ∀ h : 1 < s.size, ((s[1]'h).toNat : Int) = bt s 1 := bt_at s 1
  have hl : bits .or .u8 (bt s 1) 32 = bt s 1 := lower_dig _ h1.1 h1.2
  have n1 : (bt s 1 == 98) = false := by have : bt s 1 ≠ 98 := by omega
                                         simpa using this
  have n2 : (bt s 1 == 111) = false := by have : bt s 1 ≠ 111 := by omega
                                          simpa using this
  have n3 : (bt s 1 == 120) = false := by have : bt s 1 ≠ 120 := by omega
                                          simpa using this
  have HL8 := Aside0.mk hl
  clear h1 hl
  have b1 : (bt s 0 == 45) = false := by simpa using h45
  have b2 : (bt s 0 == 43) = false := by simpa using h43
  have b4 : decide (1 ≤ (s.size : Int)) = true := decide_eq_true (by omega)
  have HF := Lib.hid hfig
  have HL := Aside0.mk hlast
  clear hfig hlast h45 h43 h0
  go_enter Tryz.func141, Tryz.ntmps141
  go_wp2_with (refine (lower_any _ _).mono ?_; rintro e w9 ⟨rfl, rfl⟩; rw [HL8.out])
  all_goals
    clear hx0 hx1
    go_loopw [2, 3, 4] (fun r sw i W => ∃ (k : Nat) (x : Int), 0 ≤ k ∧ k ≤ s.size ∧ i = .int .i64 k ∧ sw = .int .i32 x ∧ Aside0 (x = sawAt s 0 94 k) ∧ Below w.heap.size w W) (fun _ _ i _ => s.size - (intOf i).toNat)
    case atStart => exact ⟨0, 94, by omega, by omega, rfl, rfl, ⟨saw_at _ _ _⟩, by first | exact Below.refl _ _ | exact pw_below_drewN (Below.refl _ _) _⟩
    case round =>
      obtain ⟨k, x, hk0, hk, rfl, rfl, hx, HB⟩ := hrel
      have HB := Aside0.mk HB
      by_cases hlt : k < s.size
      · have hlt' : (k : Int) < s.size := by omega
        have hxk : ∀ h : k < s.size, ((s[k]'h).toNat : Int) = bt s (k : Nat) := fun h => (bt_nat s k h).symm
        have hfk := HF.out k hk0 hlt
        obtain ⟨c, hc⟩ : ∃ c, bt s (k : Nat) = c := ⟨_, rfl⟩
        rw [hc] at hxk hfk
        have HC := Aside0.mk hc
        clear hc
        rcases hfk with ⟨rfl, hsw⟩ | ⟨h48, h57⟩
        · rw [← hx.out] at hsw
          subst hsw
          go_wp2_with (refine (lower_any _ _).mono ?_; rintro e w9 ⟨rfl, rfl⟩; rw [show bits .or .u8 95 32 = 127 from by decide +kernel])
          all_goals
            go_roundw
            case rel => exact ⟨k + 1, _, by omega, by omega, by go_num, rfl, ⟨saw_und s 0 94 k (by omega) HC.out⟩, by first | exact HB.out | exact pw_below_drewN HB.out _⟩
            case measure => simp [intOf]; omega
        · go_wp2_with fail
          all_goals
            go_roundw
            case rel => exact ⟨k + 1, _, by omega, by omega, by go_num, rfl, ⟨saw_fig s 0 94 k (by omega) (by rw [HC.out]; omega)⟩, by first | exact HB.out | exact pw_below_drewN HB.out _⟩
            case measure => simp [intOf]; omega
      · obtain rfl : k = s.size := by omega
        have hl2 : decide ((s.size : Int) < s.size) = false := decide_eq_false (by omega)
        have hlx : (x != 95) = true := by rw [hx.out]; simpa using HL.out
        go_wp2_with fail
        all_goals
          go_ret
          exact ⟨by first | rfl | (rw [hlx]), by first | exact HB.out | exact pw_below_drewN HB.out _⟩
end Go.Proofs.YtgpoplfgngiilaaGreatDoor
