/- What internal/strconv's lower and ParseUint answer at base 0 and 64 bits, at figures with a prefix or none, underscores between them. (wip/gen/pu.py wrote it.) -/
import Derived.Test.YtgpoplfgngiilaaGreatDoorPl
import Derived.Test.YtgpoplfgngiilaaGreatDoorB0
set_option linter.unusedVariables false
set_option linter.unusedSimpArgs false
namespace Go.Proofs.YtgpoplfgngiilaaGreatDoor
open Go.RowKit Go.Proofs.YtgpoplfgngiilaaGreatDoorW.PrintWords Go.Proofs.YtgpoplfgngiilaaGreatDoorW.PrintLast Go.Proofs.YtgpoplfgngiilaaGreatDoorW.PrintMore PAll Pl

theorem lower_any (c : Int) (w : World) : Calls Tryz.prog 140 #[.int .u8 c] w fun e w' => e = .returned (.int .u8 (bits .or .u8 c 32)) ∧ w = w' := by
  go_enter Tryz.func140, Tryz.ntmps140
  go_wp2
  go_ret
  exact ⟨rfl, rfl⟩

set_option maxRecDepth 100000 in
theorem lower_low_all : ∀ c : Fin 128, (65 ≤ c.val ∧ c.val ≤ 90 → bits .or .u8 (c.val : Int) 32 = (c.val : Int) + 32) ∧ (97 ≤ c.val ∧ c.val ≤ 122 → bits .or .u8 (c.val : Int) 32 = (c.val : Int)) := by decide +kernel
theorem lower_up (c : Int) (h0 : 65 ≤ c) (h1 : c ≤ 90) : bits .or .u8 c 32 = c + 32 := by
  obtain ⟨n, rfl⟩ := Int.eq_ofNat_of_zero_le (show 0 ≤ c by omega)
  exact (lower_low_all ⟨n, by omega⟩).1 ⟨(by omega : 65 ≤ n), (by omega : n ≤ 90)⟩
theorem lower_lo (c : Int) (h0 : 97 ≤ c) (h1 : c ≤ 122) : bits .or .u8 c 32 = c := by
  obtain ⟨n, rfl⟩ := Int.eq_ofNat_of_zero_le (show 0 ≤ c by omega)
  exact (lower_low_all ⟨n, by omega⟩).2 ⟨(by omega : 97 ≤ n), (by omega : n ≤ 122)⟩

set_option maxRecDepth 100000 in
theorem lower_dig_all : ∀ c : Fin 128, 48 ≤ c.val ∧ c.val ≤ 57 → bits .or .u8 (c.val : Int) 32 = (c.val : Int) := by decide +kernel
theorem lower_dig (c : Int) (h0 : 48 ≤ c) (h1 : c ≤ 57) : bits .or .u8 c 32 = c := by
  obtain ⟨n, rfl⟩ := Int.eq_ofNat_of_zero_le (show 0 ≤ c by omega)
  exact lower_dig_all ⟨n, by omega⟩ ⟨(by omega : 48 ≤ n), (by omega : n ≤ 57)⟩

/-- The value of a figure. -/
def dv (c : Int) : Int := if c ≤ 57 then c - 48 else if c ≤ 70 then c - 55 else c - 87
/-- A figure of base b. -/
def isFig (b : Nat) (c : Int) : Prop := (48 ≤ c ∧ c ≤ 57 ∨ 65 ≤ c ∧ c ≤ 70 ∨ 97 ≤ c ∧ c ≤ 102) ∧ dv c < b
/-- The value of the first k bytes, underscores left out. -/
def pv (b : Nat) (s : ByteArray) : Nat → Nat
  | 0 => 0
  | k + 1 => if bt s k = 95 then pv b s k else pv b s k * b + (dv (bt s k)).toNat

theorem pv_mono (b : Nat) (hb : 1 ≤ b) (s : ByteArray) (k : Nat) : ∀ j, pv b s k ≤ pv b s (k + j)
  | 0 => Nat.le_refl _
  | j + 1 => by
    refine Nat.le_trans (pv_mono b hb s k j) ?_
    show pv b s (k + j) ≤ (if bt s (k + j : Nat) = 95 then pv b s (k + j) else pv b s (k + j) * b + (dv (bt s (k + j : Nat))).toNat)
    split
    · exact Nat.le_refl _
    · have := Nat.mul_le_mul_left (pv b s (k + j)) hb
      omega
theorem pv_le (b : Nat) (hb : 1 ≤ b) (s : ByteArray) (k n : Nat) (h : k ≤ n) : pv b s k ≤ pv b s n := by
  have := pv_mono b hb s k (n - k)
  rwa [show k + (n - k) = n from by omega] at this
theorem pv_und (b : Nat) (s : ByteArray) (k : Nat) (h : bt s k = 95) : pv b s (k + 1) = pv b s k := if_pos h
theorem pv_fig (b : Nat) (s : ByteArray) (k : Nat) (h : bt s k ≠ 95) : pv b s (k + 1) = pv b s k * b + (dv (bt s k)).toNat := if_neg h

theorem bw_cell (w : World) (e : TypeId) (t : ByteArray) (k : Nat) (h : k < t.size) : (Lib.bytesWorld w e t).cell? ⟨w.heap.size, k, none⟩ = some (.int .u8 (bt t k)) := by
  rw [Lib.bytesWorld_cell w e t k h, bt_nat t k h]
  have hd : k < t.data.toList.length := by simpa using h
  rw [List.getD_eq_getElem?_getD, List.getElem?_eq_getElem hd]
  rfl

theorem u64_lt (x : Int) : 0 ≤ IntKind.u64.wrap x ∧ IntKind.u64.wrap x < 18446744073709551616 := by simp [IntKind.wrap, IntKind.bits, IntKind.signed]; omega
theorem u64_max : IntKind.u64.wrap (IntKind.u64.wrap 18446744073709551616 - 1) = 18446744073709551615 := by decide
theorem u64_stays (p d : Int) (h0 : 0 ≤ p) (h1 : p < 18446744073709551616) (h2 : 0 ≤ d) (h3 : d < 256) (h : p ≤ IntKind.u64.wrap (p + d)) : IntKind.u64.wrap (p + d) = p + d ∧ p + d < 18446744073709551616 := by
  simp [IntKind.wrap, IntKind.bits, IntKind.signed] at h ⊢; omega
theorem u64_over (p d : Int) (h0 : 0 ≤ p) (h1 : p < 18446744073709551616) (h2 : 0 ≤ d) (h3 : d < 256) (h : IntKind.u64.wrap (p + d) < p) : 18446744073709551616 ≤ p + d := by
  simp [IntKind.wrap, IntKind.bits, IntKind.signed] at h; omega

/-- The next figure carries the number over the end: so does the whole. -/
theorem pv_over (b : Nat) (hb : 1 ≤ b) (t : ByteArray) (k : Nat) (hk : k < t.size) (m c d : Int) (hm : m = (pv b t k : Nat)) (hc : bt t k = c) (hc95 : c ≠ 95) (hd : dv c = d) (hd0 : 0 ≤ d) (h : 18446744073709551616 ≤ m * b + d) : 18446744073709551616 ≤ pv b t t.size := by
  have h1 := pv_le b hb t (k + 1) t.size (by omega)
  rw [pv_fig b t k (by rw [hc]; exact hc95), hc, hd] at h1
  have h2 : ((pv b t k * b + d.toNat : Nat) : Int) = m * b + d := by rw [hm]; push_cast; omega
  omega
theorem pv_next (b : Nat) (t : ByteArray) (k : Nat) (m c d : Int) (hm : m = (pv b t k : Nat)) (hc : bt t k = c) (hc95 : c ≠ 95) (hd : dv c = d) (hd0 : 0 ≤ d) : m * b + d = (pv b t (k + 1) : Nat) := by
  rw [pv_fig b t k (by rw [hc]; exact hc95), hc, hd, hm]; push_cast; omega

/-- What ParseUint answers. -/
def PuOk (V : Nat) (w : World) (e : Ending) (w' : World) : Prop :=
  (V < 18446744073709551616 ∧ e = .returned (.tuple #[.int .u64 V, .nilIface]) ∨ 18446744073709551616 ≤ V ∧ e = .returned (.tuple #[.int .u64 18446744073709551615, .iface 176 (.int .i64 1)])) ∧ Below w.heap.size w w'


set_option maxHeartbeats 4000000 in
set_option maxRecDepth 100000 in
theorem pu_10 (s : ByteArray) (w : World) (hs : 0 < s.size) (hm : s.size ≤ 100000) (h0 : bt s 0 ≠ 48) (t : ByteArray) (ht : t = s)
    (hfig : ∀ j : Nat, j < t.size → bt t j = 95 ∨ isFig 10 (bt t j))
    (hund : ∀ W, Calls Tryz.prog 141 #[.string s] W fun e w' => e = .returned (.bool true) ∧ Below W.heap.size W w') :
    Calls Tryz.prog 98 #[.string s, .int .i64 0, .int .i64 64] w (PuOk (pv 10 t t.size) w) := by
  have hx0 : ∀ h : 0 < s.size, ((s[0]'h).toNat : Int) = bt s 0 := bt_at s 0
  have hne : s.toList.isEmpty = false := by rw [ByteArray.toList_eq]; cases hl : s.data.toList with | nil => exact absurd hs (by simp [ByteArray.size, ← Array.length_toList, hl]) | cons _ _ => rfl
  have kb := fun W => print_bytes (P := Tryz.prog) 9 44 5 Tryz.underlying9 Tryz.underlying44 Tryz.underlying5 s W
  have b0 : (bt s 0 == 48) = false := by simpa using h0
  go_enter Tryz.func98, Tryz.ntmps98
  go_wp2_with fail
  subst ht
  obtain ⟨W0, hW0⟩ : ∃ W0, W0 = Lib.bytesWorld w 5 t := ⟨_, rfl⟩
  have hcell : ∀ k : Nat, k < t.size → W0.cell? ⟨w.heap.size, k, none⟩ = some (.int .u8 (bt t k)) := fun k h => by rw [hW0]; exact bw_cell w 5 t k h
  have hB0 : Below w.heap.size w W0 := by rw [hW0]; exact bytes_below (Below.refl _ _) (Nat.le_refl _) _ _
  rw [← hW0, u64_max]
  have HC := Lib.hid hcell
  have HB := Aside0.mk hB0
  have HF := Lib.hid hfig
  have HU := Aside0.mk hund
  clear hcell hB0 hW0 kb hfig hx0 hne hund
  go_loopw [101, 15, 16, 12, 13, 17, 6, 7] (fun i c d u n n1 r6 r7 W => W = W0 ∧ ∃ (k : Nat) (ub : Bool) (m : Int), k ≤ t.size ∧ i = .int .i64 k ∧ u = .bool ub ∧ n = .int .u64 m ∧ Aside0 (m = (pv 10 t k : Nat) ∧ m < 18446744073709551616)) (fun i _ _ _ _ _ _ _ _ => t.size - (intOf i).toNat)
  case atStart => exact ⟨rfl, 0, false, 0, by omega, rfl, rfl, rfl, ⟨rfl, by decide⟩⟩
  case round =>
    obtain ⟨rfl, k, ub, m, hk, rfl, rfl, rfl, hm0⟩ := hrel
    have hm1 := hm0.out.2
    have hm2 : 0 ≤ m := by rw [hm0.out.1]; exact Int.natCast_nonneg _
    by_cases hlt : k < t.size
    · have hlt' : (k : Int) < t.size := by omega
      have hck := HC.out k hlt
      have hfk := HF.out k hlt
      obtain ⟨c, hc⟩ : ∃ c, bt t k = c := ⟨_, rfl⟩
      rw [hc] at hck hfk
      have HCK := Aside0.mk hc
      clear hc
      rcases hfk with h95 | hfg
      · subst h95
        go_wp2_with fail
        go_roundw
        case rel => exact ⟨trivial, k + 1, true, m, by omega, by go_num, rfl, rfl, ⟨by rw [pv_und _ _ _ HCK.out]; exact hm0.out.1, hm1⟩⟩
        case measure => simp [intOf]; omega
      · obtain ⟨hrg, hdb⟩ := hfg
        have hc95 : (c == 95) = false := by have : c ≠ 95 := by omega
                                            simpa using this
        rcases hrg with hd | hd | hd
        · obtain ⟨hd1, hd2⟩ := hd
          have hdv : dv c = c - 48 := if_pos hd2
          rw [hdv] at hdb
          have HDV := Aside0.mk hdv
          have HDB := Aside0.mk hdb
          have hwm : IntKind.u64.wrap (m * 10 + (c - 48)) ≤ 18446744073709551615 := by have := (u64_lt (m * 10 + (c - 48))).2; omega
          have hwb : decide (18446744073709551615 < IntKind.u64.wrap (m * 10 + (c - 48))) = false := decide_eq_false (by omega)
          clear hdv hwm
          clear hdb
          have hne95 : c ≠ 95 := by omega
          have HNE := Aside0.mk hne95
          clear hne95
          go_wp2_with fail
          · refine bodyPost_ret (results_tmp2 rfl _ _ _) rfl ?_
            exact ⟨.inr ⟨pv_over 10 (by omega) t k hlt m c (c - 48) hm0.out.1 HCK.out HNE.out HDV.out (by omega) (by omega), rfl⟩, HB.out⟩
          · have hst := u64_stays (m * 10) (c - 48) (by omega) (by omega) (by omega) (by omega) (by assumption)
            go_roundw
            case rel => exact ⟨trivial, k + 1, ub, m * 10 + (c - 48), by omega, by go_num, rfl, by rw [hst.1], ⟨pv_next 10 t k m c (c - 48) hm0.out.1 HCK.out HNE.out HDV.out (by omega), hst.2⟩⟩
            case measure => simp [intOf]; omega
          · have hov := u64_over (m * 10) (c - 48) (by omega) (by omega) (by omega) (by omega) (by assumption)
            refine bodyPost_ret (results_tmp2 rfl _ _ _) rfl ?_
            exact ⟨.inr ⟨pv_over 10 (by omega) t k hlt m c (c - 48) hm0.out.1 HCK.out HNE.out HDV.out (by omega) hov, rfl⟩, HB.out⟩
        · exfalso
          have hdv : dv c = c - 55 := by unfold dv; rw [if_neg (by omega), if_pos (by omega)]
          omega
        · exfalso
          have hdv : dv c = c - 87 := by unfold dv; rw [if_neg (by omega), if_neg (by omega)]
          omega
    · obtain rfl : k = t.size := by omega
      have hlt' : decide ((t.size : Int) < t.size) = false := decide_eq_false (by omega)
      have hv : pv 10 t t.size < 18446744073709551616 := by have h1 := hm0.out.1; omega
      have HM := Aside0.mk hm0.out.1
      have HV := Aside0.mk hv
      clear hv hm0 hlt
      cases ub
      · go_wp2_with fail
        refine bodyPost_ret (results_tmp2 rfl _ _ _) rfl ?_
        exact ⟨.inl ⟨HV.out, by rw [← HM.out]; rfl⟩, HB.out⟩
      · go_wp2_with fail
        refine (HU.out _).mono ?_
        rintro e w2 ⟨rfl, hb2⟩
        have HB2 := Aside0.mk (below_step HB.out hb2)
        clear hb2
        go_wp2_with fail
        refine bodyPost_ret (results_tmp2 rfl _ _ _) rfl ?_
        exact ⟨.inl ⟨HV.out, by rw [← HM.out]; rfl⟩, HB2.out⟩


set_option maxHeartbeats 4000000 in
set_option maxRecDepth 100000 in
theorem pu_x (s : ByteArray) (w : World) (hs : 0 < s.size) (hm : s.size ≤ 100000) (h3 : 3 ≤ s.size) (h0 : bt s 0 = 48) (h1 : bt s 1 = 120 ∨ bt s 1 = 88) (t : ByteArray) (ht : t = (s.extract 2 s.size))
    (hfig : ∀ j : Nat, j < t.size → bt t j = 95 ∨ isFig 16 (bt t j))
    (hund : ∀ W, Calls Tryz.prog 141 #[.string s] W fun e w' => e = .returned (.bool true) ∧ Below W.heap.size W w') :
    Calls Tryz.prog 98 #[.string s, .int .i64 0, .int .i64 64] w (PuOk (pv 16 t t.size) w) := by
  have hx0 : ∀ h : 0 < s.size, ((s[0]'h).toNat : Int) = bt s 0 := bt_at s 0
  have hne : s.toList.isEmpty = false := by rw [ByteArray.toList_eq]; cases hl : s.data.toList with | nil => exact absurd hs (by simp [ByteArray.size, ← Array.length_toList, hl]) | cons _ _ => rfl
  have kb := fun W => print_bytes (P := Tryz.prog) 9 44 5 Tryz.underlying9 Tryz.underlying44 Tryz.underlying5 (s.extract 2 s.size) W
  have hx1 : ∀ h : 1 < s.size, ((s[1]'h).toNat : Int) = bt s 1 := bt_at s 1
  have b0 : (bt s 0 == 48) = true := by simpa using h0
  have b3 : decide (3 ≤ (s.size : Int)) = true := decide_eq_true (by omega)
  have hl : bits .or .u8 (bt s 1) 32 = 120 := by rcases h1 with h | h <;> rw [h] <;> decide +kernel
  have HL := Aside0.mk (fun W => (lower_any (bt s 1) W).mono (R' := fun e w' => e = .returned (.int .u8 120) ∧ W = w') (fun e w' h => by rw [hl] at h; exact h))
  clear h1 hl h0
  go_enter Tryz.func98, Tryz.ntmps98
  go_wp2_with (refine (HL.out _).mono ?_; rintro e w9 ⟨rfl, rfl⟩)
  rw [← ht]
  have HZ := Aside0.mk (show t.size = s.size - 2 by rw [ht, ByteArray.size_extract]; omega)
  clear ht
  obtain ⟨W0, hW0⟩ : ∃ W0, W0 = Lib.bytesWorld w 5 t := ⟨_, rfl⟩
  have hcell : ∀ k : Nat, k < t.size → W0.cell? ⟨w.heap.size, k, none⟩ = some (.int .u8 (bt t k)) := fun k h => by rw [hW0]; exact bw_cell w 5 t k h
  have hB0 : Below w.heap.size w W0 := by rw [hW0]; exact bytes_below (Below.refl _ _) (Nat.le_refl _) _ _
  rw [← hW0, u64_max]
  have HC := Lib.hid hcell
  have HB := Aside0.mk hB0
  have HF := Lib.hid hfig
  have HU := Aside0.mk hund
  clear hcell hB0 hW0 kb hfig hx0 hne hund hx1
  go_loopw [101, 15, 16, 12, 13, 17, 6, 7] (fun i c d u n n1 r6 r7 W => W = W0 ∧ ∃ (k : Nat) (ub : Bool) (m : Int), k ≤ t.size ∧ i = .int .i64 k ∧ u = .bool ub ∧ n = .int .u64 m ∧ Aside0 (m = (pv 16 t k : Nat) ∧ m < 18446744073709551616)) (fun i _ _ _ _ _ _ _ _ => t.size - (intOf i).toNat)
  case atStart => exact ⟨rfl, 0, false, 0, by omega, rfl, rfl, rfl, ⟨rfl, by decide⟩⟩
  case round =>
    obtain ⟨rfl, k, ub, m, hk, rfl, rfl, rfl, hm0⟩ := hrel
    have hm1 := hm0.out.2
    have hm2 : 0 ≤ m := by rw [hm0.out.1]; exact Int.natCast_nonneg _
    by_cases hlt : k < t.size
    · have hlt' : (k : Int) < t.size := by omega
      have hlt2 : k < s.size - 2 := by have := HZ.out; omega
      have hck := HC.out k hlt
      have hfk := HF.out k hlt
      obtain ⟨c, hc⟩ : ∃ c, bt t k = c := ⟨_, rfl⟩
      rw [hc] at hck hfk
      have HCK := Aside0.mk hc
      clear hc
      rcases hfk with h95 | hfg
      · subst h95
        go_wp2_with fail
        go_roundw
        case rel => exact ⟨trivial, k + 1, true, m, by omega, by go_num, rfl, rfl, ⟨by rw [pv_und _ _ _ HCK.out]; exact hm0.out.1, hm1⟩⟩
        case measure => simp [intOf]; omega
      · obtain ⟨hrg, hdb⟩ := hfg
        have hc95 : (c == 95) = false := by have : c ≠ 95 := by omega
                                            simpa using this
        rcases hrg with hd | hd | hd
        · obtain ⟨hd1, hd2⟩ := hd
          have hdv : dv c = c - 48 := if_pos hd2
          rw [hdv] at hdb
          have HDV := Aside0.mk hdv
          have HDB := Aside0.mk hdb
          have hwm : IntKind.u64.wrap (m * 16 + (c - 48)) ≤ 18446744073709551615 := by have := (u64_lt (m * 16 + (c - 48))).2; omega
          have hwb : decide (18446744073709551615 < IntKind.u64.wrap (m * 16 + (c - 48))) = false := decide_eq_false (by omega)
          clear hdv hwm
          clear hdb
          have hne95 : c ≠ 95 := by omega
          have HNE := Aside0.mk hne95
          clear hne95
          go_wp2_with fail
          · refine bodyPost_ret (results_tmp2 rfl _ _ _) rfl ?_
            exact ⟨.inr ⟨pv_over 16 (by omega) t k hlt m c (c - 48) hm0.out.1 HCK.out HNE.out HDV.out (by omega) (by omega), rfl⟩, HB.out⟩
          · go_roundw
            case rel => exact ⟨trivial, k + 1, ub, m * 16 + (c - 48), by omega, by go_num, rfl, by first | rfl | go_num, ⟨pv_next 16 t k m c (c - 48) hm0.out.1 HCK.out HNE.out HDV.out (by omega), by omega⟩⟩
            case measure => simp [intOf]; omega
        · obtain ⟨hd1, hd2⟩ := hd
          have hdv : dv c = c - 55 := by unfold dv; rw [if_neg (by omega), if_pos (by omega)]
          rw [hdv] at hdb
          have HDV := Aside0.mk hdv
          have hlow : bits .or .u8 c 32 = c + 32 := lower_up c (by omega) (by omega)
          have HLOW := Aside0.mk hlow
          have hwm : IntKind.u64.wrap (m * 16 + (c - 55)) ≤ 18446744073709551615 := by have := (u64_lt (m * 16 + (c - 55))).2; omega
          have hwb : decide (18446744073709551615 < IntKind.u64.wrap (m * 16 + (c - 55))) = false := decide_eq_false (by omega)
          clear hdv hwm hlow
          have hne95 : c ≠ 95 := by omega
          have HNE := Aside0.mk hne95
          clear hne95
          go_wp2_with (refine (lower_any _ _).mono ?_; rintro e w9 ⟨rfl, rfl⟩; rw [HLOW.out])
          · refine bodyPost_ret (results_tmp2 rfl _ _ _) rfl ?_
            exact ⟨.inr ⟨pv_over 16 (by omega) t k hlt m c (c - 55) hm0.out.1 HCK.out HNE.out HDV.out (by omega) (by omega), rfl⟩, HB.out⟩
          · go_roundw
            case rel => exact ⟨trivial, k + 1, ub, m * 16 + (c - 55), by omega, by go_num, rfl, by first | rfl | go_num, ⟨pv_next 16 t k m c (c - 55) hm0.out.1 HCK.out HNE.out HDV.out (by omega), by omega⟩⟩
            case measure => simp [intOf]; omega
        · obtain ⟨hd1, hd2⟩ := hd
          have hdv : dv c = c - 87 := by unfold dv; rw [if_neg (by omega), if_neg (by omega)]
          rw [hdv] at hdb
          have HDV := Aside0.mk hdv
          have hlow : bits .or .u8 c 32 = c := lower_lo c (by omega) (by omega)
          have HLOW := Aside0.mk hlow
          have hwm : IntKind.u64.wrap (m * 16 + (c - 87)) ≤ 18446744073709551615 := by have := (u64_lt (m * 16 + (c - 87))).2; omega
          have hwb : decide (18446744073709551615 < IntKind.u64.wrap (m * 16 + (c - 87))) = false := decide_eq_false (by omega)
          clear hdv hwm hlow
          have hne95 : c ≠ 95 := by omega
          have HNE := Aside0.mk hne95
          clear hne95
          go_wp2_with (refine (lower_any _ _).mono ?_; rintro e w9 ⟨rfl, rfl⟩; rw [HLOW.out])
          · refine bodyPost_ret (results_tmp2 rfl _ _ _) rfl ?_
            exact ⟨.inr ⟨pv_over 16 (by omega) t k hlt m c (c - 87) hm0.out.1 HCK.out HNE.out HDV.out (by omega) (by omega), rfl⟩, HB.out⟩
          · go_roundw
            case rel => exact ⟨trivial, k + 1, ub, m * 16 + (c - 87), by omega, by go_num, rfl, by first | rfl | go_num, ⟨pv_next 16 t k m c (c - 87) hm0.out.1 HCK.out HNE.out HDV.out (by omega), by omega⟩⟩
            case measure => simp [intOf]; omega
    · obtain rfl : k = t.size := by omega
      have hlt' : decide ((t.size : Int) < t.size) = false := decide_eq_false (by omega)
      have hlt2 : decide (t.size < s.size - 2) = false := decide_eq_false (by have := HZ.out; omega)
      have hv : pv 16 t t.size < 18446744073709551616 := by have h1 := hm0.out.1; omega
      have HM := Aside0.mk hm0.out.1
      have HV := Aside0.mk hv
      clear hv hm0 hlt
      cases ub
      · go_wp2_with fail
        refine bodyPost_ret (results_tmp2 rfl _ _ _) rfl ?_
        exact ⟨.inl ⟨HV.out, by rw [← HM.out]; rfl⟩, HB.out⟩
      · go_wp2_with fail
        refine (HU.out _).mono ?_
        rintro e w2 ⟨rfl, hb2⟩
        have HB2 := Aside0.mk (below_step HB.out hb2)
        clear hb2
        go_wp2_with fail
        refine bodyPost_ret (results_tmp2 rfl _ _ _) rfl ?_
        exact ⟨.inl ⟨HV.out, by rw [← HM.out]; rfl⟩, HB2.out⟩


set_option maxHeartbeats 4000000 in
set_option maxRecDepth 100000 in
theorem pu_b (s : ByteArray) (w : World) (hs : 0 < s.size) (hm : s.size ≤ 100000) (h3 : 3 ≤ s.size) (h0 : bt s 0 = 48) (h1 : bt s 1 = 98 ∨ bt s 1 = 66) (t : ByteArray) (ht : t = (s.extract 2 s.size))
    (hfig : ∀ j : Nat, j < t.size → bt t j = 95 ∨ isFig 2 (bt t j))
    (hund : ∀ W, Calls Tryz.prog 141 #[.string s] W fun e w' => e = .returned (.bool true) ∧ Below W.heap.size W w') :
    Calls Tryz.prog 98 #[.string s, .int .i64 0, .int .i64 64] w (PuOk (pv 2 t t.size) w) := by
  have hx0 : ∀ h : 0 < s.size, ((s[0]'h).toNat : Int) = bt s 0 := bt_at s 0
  have hne : s.toList.isEmpty = false := by rw [ByteArray.toList_eq]; cases hl : s.data.toList with | nil => exact absurd hs (by simp [ByteArray.size, ← Array.length_toList, hl]) | cons _ _ => rfl
  have kb := fun W => print_bytes (P := Tryz.prog) 9 44 5 Tryz.underlying9 Tryz.underlying44 Tryz.underlying5 (s.extract 2 s.size) W
  have hx1 : ∀ h : 1 < s.size, ((s[1]'h).toNat : Int) = bt s 1 := bt_at s 1
  have b0 : (bt s 0 == 48) = true := by simpa using h0
  have b3 : decide (3 ≤ (s.size : Int)) = true := decide_eq_true (by omega)
  have hl : bits .or .u8 (bt s 1) 32 = 98 := by rcases h1 with h | h <;> rw [h] <;> decide +kernel
  have HL := Aside0.mk (fun W => (lower_any (bt s 1) W).mono (R' := fun e w' => e = .returned (.int .u8 98) ∧ W = w') (fun e w' h => by rw [hl] at h; exact h))
  clear h1 hl h0
  go_enter Tryz.func98, Tryz.ntmps98
  go_wp2_with (refine (HL.out _).mono ?_; rintro e w9 ⟨rfl, rfl⟩)
  rw [← ht]
  have HZ := Aside0.mk (show t.size = s.size - 2 by rw [ht, ByteArray.size_extract]; omega)
  clear ht
  obtain ⟨W0, hW0⟩ : ∃ W0, W0 = Lib.bytesWorld w 5 t := ⟨_, rfl⟩
  have hcell : ∀ k : Nat, k < t.size → W0.cell? ⟨w.heap.size, k, none⟩ = some (.int .u8 (bt t k)) := fun k h => by rw [hW0]; exact bw_cell w 5 t k h
  have hB0 : Below w.heap.size w W0 := by rw [hW0]; exact bytes_below (Below.refl _ _) (Nat.le_refl _) _ _
  rw [← hW0, u64_max]
  have HC := Lib.hid hcell
  have HB := Aside0.mk hB0
  have HF := Lib.hid hfig
  have HU := Aside0.mk hund
  clear hcell hB0 hW0 kb hfig hx0 hne hund hx1
  go_loopw [101, 15, 16, 12, 13, 17, 6, 7] (fun i c d u n n1 r6 r7 W => W = W0 ∧ ∃ (k : Nat) (ub : Bool) (m : Int), k ≤ t.size ∧ i = .int .i64 k ∧ u = .bool ub ∧ n = .int .u64 m ∧ Aside0 (m = (pv 2 t k : Nat) ∧ m < 18446744073709551616)) (fun i _ _ _ _ _ _ _ _ => t.size - (intOf i).toNat)
  case atStart => exact ⟨rfl, 0, false, 0, by omega, rfl, rfl, rfl, ⟨rfl, by decide⟩⟩
  case round =>
    obtain ⟨rfl, k, ub, m, hk, rfl, rfl, rfl, hm0⟩ := hrel
    have hm1 := hm0.out.2
    have hm2 : 0 ≤ m := by rw [hm0.out.1]; exact Int.natCast_nonneg _
    by_cases hlt : k < t.size
    · have hlt' : (k : Int) < t.size := by omega
      have hlt2 : k < s.size - 2 := by have := HZ.out; omega
      have hck := HC.out k hlt
      have hfk := HF.out k hlt
      obtain ⟨c, hc⟩ : ∃ c, bt t k = c := ⟨_, rfl⟩
      rw [hc] at hck hfk
      have HCK := Aside0.mk hc
      clear hc
      rcases hfk with h95 | hfg
      · subst h95
        go_wp2_with fail
        go_roundw
        case rel => exact ⟨trivial, k + 1, true, m, by omega, by go_num, rfl, rfl, ⟨by rw [pv_und _ _ _ HCK.out]; exact hm0.out.1, hm1⟩⟩
        case measure => simp [intOf]; omega
      · obtain ⟨hrg, hdb⟩ := hfg
        have hc95 : (c == 95) = false := by have : c ≠ 95 := by omega
                                            simpa using this
        rcases hrg with hd | hd | hd
        · obtain ⟨hd1, hd2⟩ := hd
          have hdv : dv c = c - 48 := if_pos hd2
          rw [hdv] at hdb
          have HDV := Aside0.mk hdv
          have HDB := Aside0.mk hdb
          have hwm : IntKind.u64.wrap (m * 2 + (c - 48)) ≤ 18446744073709551615 := by have := (u64_lt (m * 2 + (c - 48))).2; omega
          have hwb : decide (18446744073709551615 < IntKind.u64.wrap (m * 2 + (c - 48))) = false := decide_eq_false (by omega)
          clear hdv hwm
          have hdb3 : c < 50 := by omega
          clear hdb
          have hne95 : c ≠ 95 := by omega
          have HNE := Aside0.mk hne95
          clear hne95
          go_wp2_with fail
          · refine bodyPost_ret (results_tmp2 rfl _ _ _) rfl ?_
            exact ⟨.inr ⟨pv_over 2 (by omega) t k hlt m c (c - 48) hm0.out.1 HCK.out HNE.out HDV.out (by omega) (by omega), rfl⟩, HB.out⟩
          · go_roundw
            case rel => exact ⟨trivial, k + 1, ub, m * 2 + (c - 48), by omega, by go_num, rfl, by first | rfl | go_num, ⟨pv_next 2 t k m c (c - 48) hm0.out.1 HCK.out HNE.out HDV.out (by omega), by omega⟩⟩
            case measure => simp [intOf]; omega
        · exfalso
          have hdv : dv c = c - 55 := by unfold dv; rw [if_neg (by omega), if_pos (by omega)]
          omega
        · exfalso
          have hdv : dv c = c - 87 := by unfold dv; rw [if_neg (by omega), if_neg (by omega)]
          omega
    · obtain rfl : k = t.size := by omega
      have hlt' : decide ((t.size : Int) < t.size) = false := decide_eq_false (by omega)
      have hlt2 : decide (t.size < s.size - 2) = false := decide_eq_false (by have := HZ.out; omega)
      have hv : pv 2 t t.size < 18446744073709551616 := by have h1 := hm0.out.1; omega
      have HM := Aside0.mk hm0.out.1
      have HV := Aside0.mk hv
      clear hv hm0 hlt
      cases ub
      · go_wp2_with fail
        refine bodyPost_ret (results_tmp2 rfl _ _ _) rfl ?_
        exact ⟨.inl ⟨HV.out, by rw [← HM.out]; rfl⟩, HB.out⟩
      · go_wp2_with fail
        refine (HU.out _).mono ?_
        rintro e w2 ⟨rfl, hb2⟩
        have HB2 := Aside0.mk (below_step HB.out hb2)
        clear hb2
        go_wp2_with fail
        refine bodyPost_ret (results_tmp2 rfl _ _ _) rfl ?_
        exact ⟨.inl ⟨HV.out, by rw [← HM.out]; rfl⟩, HB2.out⟩


set_option maxHeartbeats 4000000 in
set_option maxRecDepth 100000 in
theorem pu_o (s : ByteArray) (w : World) (hs : 0 < s.size) (hm : s.size ≤ 100000) (h3 : 3 ≤ s.size) (h0 : bt s 0 = 48) (h1 : bt s 1 = 111 ∨ bt s 1 = 79) (t : ByteArray) (ht : t = (s.extract 2 s.size))
    (hfig : ∀ j : Nat, j < t.size → bt t j = 95 ∨ isFig 8 (bt t j))
    (hund : ∀ W, Calls Tryz.prog 141 #[.string s] W fun e w' => e = .returned (.bool true) ∧ Below W.heap.size W w') :
    Calls Tryz.prog 98 #[.string s, .int .i64 0, .int .i64 64] w (PuOk (pv 8 t t.size) w) := by
  have hx0 : ∀ h : 0 < s.size, ((s[0]'h).toNat : Int) = bt s 0 := bt_at s 0
  have hne : s.toList.isEmpty = false := by rw [ByteArray.toList_eq]; cases hl : s.data.toList with | nil => exact absurd hs (by simp [ByteArray.size, ← Array.length_toList, hl]) | cons _ _ => rfl
  have kb := fun W => print_bytes (P := Tryz.prog) 9 44 5 Tryz.underlying9 Tryz.underlying44 Tryz.underlying5 (s.extract 2 s.size) W
  have hx1 : ∀ h : 1 < s.size, ((s[1]'h).toNat : Int) = bt s 1 := bt_at s 1
  have b0 : (bt s 0 == 48) = true := by simpa using h0
  have b3 : decide (3 ≤ (s.size : Int)) = true := decide_eq_true (by omega)
  have hl : bits .or .u8 (bt s 1) 32 = 111 := by rcases h1 with h | h <;> rw [h] <;> decide +kernel
  have HL := Aside0.mk (fun W => (lower_any (bt s 1) W).mono (R' := fun e w' => e = .returned (.int .u8 111) ∧ W = w') (fun e w' h => by rw [hl] at h; exact h))
  clear h1 hl h0
  go_enter Tryz.func98, Tryz.ntmps98
  go_wp2_with (refine (HL.out _).mono ?_; rintro e w9 ⟨rfl, rfl⟩)
  rw [← ht]
  have HZ := Aside0.mk (show t.size = s.size - 2 by rw [ht, ByteArray.size_extract]; omega)
  clear ht
  obtain ⟨W0, hW0⟩ : ∃ W0, W0 = Lib.bytesWorld w 5 t := ⟨_, rfl⟩
  have hcell : ∀ k : Nat, k < t.size → W0.cell? ⟨w.heap.size, k, none⟩ = some (.int .u8 (bt t k)) := fun k h => by rw [hW0]; exact bw_cell w 5 t k h
  have hB0 : Below w.heap.size w W0 := by rw [hW0]; exact bytes_below (Below.refl _ _) (Nat.le_refl _) _ _
  rw [← hW0, u64_max]
  have HC := Lib.hid hcell
  have HB := Aside0.mk hB0
  have HF := Lib.hid hfig
  have HU := Aside0.mk hund
  clear hcell hB0 hW0 kb hfig hx0 hne hund hx1
  go_loopw [101, 15, 16, 12, 13, 17, 6, 7] (fun i c d u n n1 r6 r7 W => W = W0 ∧ ∃ (k : Nat) (ub : Bool) (m : Int), k ≤ t.size ∧ i = .int .i64 k ∧ u = .bool ub ∧ n = .int .u64 m ∧ Aside0 (m = (pv 8 t k : Nat) ∧ m < 18446744073709551616)) (fun i _ _ _ _ _ _ _ _ => t.size - (intOf i).toNat)
  case atStart => exact ⟨rfl, 0, false, 0, by omega, rfl, rfl, rfl, ⟨rfl, by decide⟩⟩
  case round =>
    obtain ⟨rfl, k, ub, m, hk, rfl, rfl, rfl, hm0⟩ := hrel
    have hm1 := hm0.out.2
    have hm2 : 0 ≤ m := by rw [hm0.out.1]; exact Int.natCast_nonneg _
    by_cases hlt : k < t.size
    · have hlt' : (k : Int) < t.size := by omega
      have hlt2 : k < s.size - 2 := by have := HZ.out; omega
      have hck := HC.out k hlt
      have hfk := HF.out k hlt
      obtain ⟨c, hc⟩ : ∃ c, bt t k = c := ⟨_, rfl⟩
      rw [hc] at hck hfk
      have HCK := Aside0.mk hc
      clear hc
      rcases hfk with h95 | hfg
      · subst h95
        go_wp2_with fail
        go_roundw
        case rel => exact ⟨trivial, k + 1, true, m, by omega, by go_num, rfl, rfl, ⟨by rw [pv_und _ _ _ HCK.out]; exact hm0.out.1, hm1⟩⟩
        case measure => simp [intOf]; omega
      · obtain ⟨hrg, hdb⟩ := hfg
        have hc95 : (c == 95) = false := by have : c ≠ 95 := by omega
                                            simpa using this
        rcases hrg with hd | hd | hd
        · obtain ⟨hd1, hd2⟩ := hd
          have hdv : dv c = c - 48 := if_pos hd2
          rw [hdv] at hdb
          have HDV := Aside0.mk hdv
          have HDB := Aside0.mk hdb
          have hwm : IntKind.u64.wrap (m * 8 + (c - 48)) ≤ 18446744073709551615 := by have := (u64_lt (m * 8 + (c - 48))).2; omega
          have hwb : decide (18446744073709551615 < IntKind.u64.wrap (m * 8 + (c - 48))) = false := decide_eq_false (by omega)
          clear hdv hwm
          have hdb3 : c < 56 := by omega
          clear hdb
          have hne95 : c ≠ 95 := by omega
          have HNE := Aside0.mk hne95
          clear hne95
          go_wp2_with fail
          · refine bodyPost_ret (results_tmp2 rfl _ _ _) rfl ?_
            exact ⟨.inr ⟨pv_over 8 (by omega) t k hlt m c (c - 48) hm0.out.1 HCK.out HNE.out HDV.out (by omega) (by omega), rfl⟩, HB.out⟩
          · go_roundw
            case rel => exact ⟨trivial, k + 1, ub, m * 8 + (c - 48), by omega, by go_num, rfl, by first | rfl | go_num, ⟨pv_next 8 t k m c (c - 48) hm0.out.1 HCK.out HNE.out HDV.out (by omega), by omega⟩⟩
            case measure => simp [intOf]; omega
        · exfalso
          have hdv : dv c = c - 55 := by unfold dv; rw [if_neg (by omega), if_pos (by omega)]
          omega
        · exfalso
          have hdv : dv c = c - 87 := by unfold dv; rw [if_neg (by omega), if_neg (by omega)]
          omega
    · obtain rfl : k = t.size := by omega
      have hlt' : decide ((t.size : Int) < t.size) = false := decide_eq_false (by omega)
      have hlt2 : decide (t.size < s.size - 2) = false := decide_eq_false (by have := HZ.out; omega)
      have hv : pv 8 t t.size < 18446744073709551616 := by have h1 := hm0.out.1; omega
      have HM := Aside0.mk hm0.out.1
      have HV := Aside0.mk hv
      clear hv hm0 hlt
      cases ub
      · go_wp2_with fail
        refine bodyPost_ret (results_tmp2 rfl _ _ _) rfl ?_
        exact ⟨.inl ⟨HV.out, by rw [← HM.out]; rfl⟩, HB.out⟩
      · go_wp2_with fail
        refine (HU.out _).mono ?_
        rintro e w2 ⟨rfl, hb2⟩
        have HB2 := Aside0.mk (below_step HB.out hb2)
        clear hb2
        go_wp2_with fail
        refine bodyPost_ret (results_tmp2 rfl _ _ _) rfl ?_
        exact ⟨.inl ⟨HV.out, by rw [← HM.out]; rfl⟩, HB2.out⟩


set_option maxHeartbeats 4000000 in
set_option maxRecDepth 100000 in
theorem pu_8l (s : ByteArray) (w : World) (hs : 0 < s.size) (hm : s.size ≤ 100000) (h3 : 3 ≤ s.size) (h0 : bt s 0 = 48) (h1 : 48 ≤ bt s 1 ∧ bt s 1 ≤ 57) (t : ByteArray) (ht : t = (s.extract 1 s.size))
    (hfig : ∀ j : Nat, j < t.size → bt t j = 95 ∨ isFig 8 (bt t j))
    (hund : ∀ W, Calls Tryz.prog 141 #[.string s] W fun e w' => e = .returned (.bool true) ∧ Below W.heap.size W w') :
    Calls Tryz.prog 98 #[.string s, .int .i64 0, .int .i64 64] w (PuOk (pv 8 t t.size) w) := by
  have hx0 : ∀ h : 0 < s.size, ((s[0]'h).toNat : Int) = bt s 0 := bt_at s 0
  have hne : s.toList.isEmpty = false := by rw [ByteArray.toList_eq]; cases hl : s.data.toList with | nil => exact absurd hs (by simp [ByteArray.size, ← Array.length_toList, hl]) | cons _ _ => rfl
  have kb := fun W => print_bytes (P := Tryz.prog) 9 44 5 Tryz.underlying9 Tryz.underlying44 Tryz.underlying5 (s.extract 1 s.size) W
  have hx1 : ∀ h : 1 < s.size, ((s[1]'h).toNat : Int) = bt s 1 := bt_at s 1
  have b0 : (bt s 0 == 48) = true := by simpa using h0
  have b3 : decide (3 ≤ (s.size : Int)) = true := decide_eq_true (by omega)
  have hl : bits .or .u8 (bt s 1) 32 = bt s 1 := lower_dig _ h1.1 h1.2
  have n1 : (bt s 1 == 98) = false := by have : bt s 1 ≠ 98 := by omega
                                         simpa using this
  have n2 : (bt s 1 == 111) = false := by have : bt s 1 ≠ 111 := by omega
                                          simpa using this
  have n3 : (bt s 1 == 120) = false := by have : bt s 1 ≠ 120 := by omega
                                          simpa using this
  have HL8 := Aside0.mk hl
  clear h1 hl h0
  go_enter Tryz.func98, Tryz.ntmps98
  go_wp2_with (refine (lower_any _ _).mono ?_; rintro e w9 ⟨rfl, rfl⟩; rw [HL8.out])
  rw [← ht]
  have HZ := Aside0.mk (show t.size = s.size - 1 by rw [ht, ByteArray.size_extract]; omega)
  clear ht
  obtain ⟨W0, hW0⟩ : ∃ W0, W0 = Lib.bytesWorld w 5 t := ⟨_, rfl⟩
  have hcell : ∀ k : Nat, k < t.size → W0.cell? ⟨w.heap.size, k, none⟩ = some (.int .u8 (bt t k)) := fun k h => by rw [hW0]; exact bw_cell w 5 t k h
  have hB0 : Below w.heap.size w W0 := by rw [hW0]; exact bytes_below (Below.refl _ _) (Nat.le_refl _) _ _
  rw [← hW0, u64_max]
  have HC := Lib.hid hcell
  have HB := Aside0.mk hB0
  have HF := Lib.hid hfig
  have HU := Aside0.mk hund
  clear hcell hB0 hW0 kb hfig hx0 hne hund hx1
  go_loopw [101, 15, 16, 12, 13, 17, 6, 7] (fun i c d u n n1 r6 r7 W => W = W0 ∧ ∃ (k : Nat) (ub : Bool) (m : Int), k ≤ t.size ∧ i = .int .i64 k ∧ u = .bool ub ∧ n = .int .u64 m ∧ Aside0 (m = (pv 8 t k : Nat) ∧ m < 18446744073709551616)) (fun i _ _ _ _ _ _ _ _ => t.size - (intOf i).toNat)
  case atStart => exact ⟨rfl, 0, false, 0, by omega, rfl, rfl, rfl, ⟨rfl, by decide⟩⟩
  case round =>
    obtain ⟨rfl, k, ub, m, hk, rfl, rfl, rfl, hm0⟩ := hrel
    have hm1 := hm0.out.2
    have hm2 : 0 ≤ m := by rw [hm0.out.1]; exact Int.natCast_nonneg _
    by_cases hlt : k < t.size
    · have hlt' : (k : Int) < t.size := by omega
      have hlt2 : k < s.size - 1 := by have := HZ.out; omega
      have hck := HC.out k hlt
      have hfk := HF.out k hlt
      obtain ⟨c, hc⟩ : ∃ c, bt t k = c := ⟨_, rfl⟩
      rw [hc] at hck hfk
      have HCK := Aside0.mk hc
      clear hc
      rcases hfk with h95 | hfg
      · subst h95
        go_wp2_with fail
        go_roundw
        case rel => exact ⟨trivial, k + 1, true, m, by omega, by go_num, rfl, rfl, ⟨by rw [pv_und _ _ _ HCK.out]; exact hm0.out.1, hm1⟩⟩
        case measure => simp [intOf]; omega
      · obtain ⟨hrg, hdb⟩ := hfg
        have hc95 : (c == 95) = false := by have : c ≠ 95 := by omega
                                            simpa using this
        rcases hrg with hd | hd | hd
        · obtain ⟨hd1, hd2⟩ := hd
          have hdv : dv c = c - 48 := if_pos hd2
          rw [hdv] at hdb
          have HDV := Aside0.mk hdv
          have HDB := Aside0.mk hdb
          have hwm : IntKind.u64.wrap (m * 8 + (c - 48)) ≤ 18446744073709551615 := by have := (u64_lt (m * 8 + (c - 48))).2; omega
          have hwb : decide (18446744073709551615 < IntKind.u64.wrap (m * 8 + (c - 48))) = false := decide_eq_false (by omega)
          clear hdv hwm
          have hdb3 : c < 56 := by omega
          clear hdb
          have hne95 : c ≠ 95 := by omega
          have HNE := Aside0.mk hne95
          clear hne95
          go_wp2_with fail
          · refine bodyPost_ret (results_tmp2 rfl _ _ _) rfl ?_
            exact ⟨.inr ⟨pv_over 8 (by omega) t k hlt m c (c - 48) hm0.out.1 HCK.out HNE.out HDV.out (by omega) (by omega), rfl⟩, HB.out⟩
          · go_roundw
            case rel => exact ⟨trivial, k + 1, ub, m * 8 + (c - 48), by omega, by go_num, rfl, by first | rfl | go_num, ⟨pv_next 8 t k m c (c - 48) hm0.out.1 HCK.out HNE.out HDV.out (by omega), by omega⟩⟩
            case measure => simp [intOf]; omega
        · exfalso
          have hdv : dv c = c - 55 := by unfold dv; rw [if_neg (by omega), if_pos (by omega)]
          omega
        · exfalso
          have hdv : dv c = c - 87 := by unfold dv; rw [if_neg (by omega), if_neg (by omega)]
          omega
    · obtain rfl : k = t.size := by omega
      have hlt' : decide ((t.size : Int) < t.size) = false := decide_eq_false (by omega)
      have hlt2 : decide (t.size < s.size - 1) = false := decide_eq_false (by have := HZ.out; omega)
      have hv : pv 8 t t.size < 18446744073709551616 := by have h1 := hm0.out.1; omega
      have HM := Aside0.mk hm0.out.1
      have HV := Aside0.mk hv
      clear hv hm0 hlt
      cases ub
      · go_wp2_with fail
        refine bodyPost_ret (results_tmp2 rfl _ _ _) rfl ?_
        exact ⟨.inl ⟨HV.out, by rw [← HM.out]; rfl⟩, HB.out⟩
      · go_wp2_with fail
        refine (HU.out _).mono ?_
        rintro e w2 ⟨rfl, hb2⟩
        have HB2 := Aside0.mk (below_step HB.out hb2)
        clear hb2
        go_wp2_with fail
        refine bodyPost_ret (results_tmp2 rfl _ _ _) rfl ?_
        exact ⟨.inl ⟨HV.out, by rw [← HM.out]; rfl⟩, HB2.out⟩


set_option maxHeartbeats 4000000 in
set_option maxRecDepth 100000 in
theorem pu_8s (s : ByteArray) (w : World) (hs : 0 < s.size) (hm : s.size ≤ 100000) (h3 : s.size < 3) (h0 : bt s 0 = 48) (t : ByteArray) (ht : t = (s.extract 1 s.size))
    (hfig : ∀ j : Nat, j < t.size → bt t j = 95 ∨ isFig 8 (bt t j))
    (hund : ∀ W, Calls Tryz.prog 141 #[.string s] W fun e w' => e = .returned (.bool true) ∧ Below W.heap.size W w') :
    Calls Tryz.prog 98 #[.string s, .int .i64 0, .int .i64 64] w (PuOk (pv 8 t t.size) w) := by
  have hx0 : ∀ h : 0 < s.size, ((s[0]'h).toNat : Int) = bt s 0 := bt_at s 0
  have hne : s.toList.isEmpty = false := by rw [ByteArray.toList_eq]; cases hl : s.data.toList with | nil => exact absurd hs (by simp [ByteArray.size, ← Array.length_toList, hl]) | cons _ _ => rfl
  have kb := fun W => print_bytes (P := Tryz.prog) 9 44 5 Tryz.underlying9 Tryz.underlying44 Tryz.underlying5 (s.extract 1 s.size) W
  have hx1 : ∀ h : 1 < s.size, ((s[1]'h).toNat : Int) = bt s 1 := bt_at s 1
  have b0 : (bt s 0 == 48) = true := by simpa using h0
  have b3 : decide (3 ≤ (s.size : Int)) = false := decide_eq_false (by omega)
  go_enter Tryz.func98, Tryz.ntmps98
  go_wp2_with fail
  rw [← ht]
  have HZ := Aside0.mk (show t.size = s.size - 1 by rw [ht, ByteArray.size_extract]; omega)
  clear ht
  obtain ⟨W0, hW0⟩ : ∃ W0, W0 = Lib.bytesWorld w 5 t := ⟨_, rfl⟩
  have hcell : ∀ k : Nat, k < t.size → W0.cell? ⟨w.heap.size, k, none⟩ = some (.int .u8 (bt t k)) := fun k h => by rw [hW0]; exact bw_cell w 5 t k h
  have hB0 : Below w.heap.size w W0 := by rw [hW0]; exact bytes_below (Below.refl _ _) (Nat.le_refl _) _ _
  rw [← hW0, u64_max]
  have HC := Lib.hid hcell
  have HB := Aside0.mk hB0
  have HF := Lib.hid hfig
  have HU := Aside0.mk hund
  clear hcell hB0 hW0 kb hfig hx0 hne hund hx1
  go_loopw [101, 15, 16, 12, 13, 17, 6, 7] (fun i c d u n n1 r6 r7 W => W = W0 ∧ ∃ (k : Nat) (ub : Bool) (m : Int), k ≤ t.size ∧ i = .int .i64 k ∧ u = .bool ub ∧ n = .int .u64 m ∧ Aside0 (m = (pv 8 t k : Nat) ∧ m < 18446744073709551616)) (fun i _ _ _ _ _ _ _ _ => t.size - (intOf i).toNat)
  case atStart => exact ⟨rfl, 0, false, 0, by omega, rfl, rfl, rfl, ⟨rfl, by decide⟩⟩
  case round =>
    obtain ⟨rfl, k, ub, m, hk, rfl, rfl, rfl, hm0⟩ := hrel
    have hm1 := hm0.out.2
    have hm2 : 0 ≤ m := by rw [hm0.out.1]; exact Int.natCast_nonneg _
    by_cases hlt : k < t.size
    · have hlt' : (k : Int) < t.size := by omega
      have hlt2 : k < s.size - 1 := by have := HZ.out; omega
      have hck := HC.out k hlt
      have hfk := HF.out k hlt
      obtain ⟨c, hc⟩ : ∃ c, bt t k = c := ⟨_, rfl⟩
      rw [hc] at hck hfk
      have HCK := Aside0.mk hc
      clear hc
      rcases hfk with h95 | hfg
      · subst h95
        go_wp2_with fail
        go_roundw
        case rel => exact ⟨trivial, k + 1, true, m, by omega, by go_num, rfl, rfl, ⟨by rw [pv_und _ _ _ HCK.out]; exact hm0.out.1, hm1⟩⟩
        case measure => simp [intOf]; omega
      · obtain ⟨hrg, hdb⟩ := hfg
        have hc95 : (c == 95) = false := by have : c ≠ 95 := by omega
                                            simpa using this
        rcases hrg with hd | hd | hd
        · obtain ⟨hd1, hd2⟩ := hd
          have hdv : dv c = c - 48 := if_pos hd2
          rw [hdv] at hdb
          have HDV := Aside0.mk hdv
          have HDB := Aside0.mk hdb
          have hwm : IntKind.u64.wrap (m * 8 + (c - 48)) ≤ 18446744073709551615 := by have := (u64_lt (m * 8 + (c - 48))).2; omega
          have hwb : decide (18446744073709551615 < IntKind.u64.wrap (m * 8 + (c - 48))) = false := decide_eq_false (by omega)
          clear hdv hwm
          have hdb3 : c < 56 := by omega
          clear hdb
          have hne95 : c ≠ 95 := by omega
          have HNE := Aside0.mk hne95
          clear hne95
          go_wp2_with fail
          · refine bodyPost_ret (results_tmp2 rfl _ _ _) rfl ?_
            exact ⟨.inr ⟨pv_over 8 (by omega) t k hlt m c (c - 48) hm0.out.1 HCK.out HNE.out HDV.out (by omega) (by omega), rfl⟩, HB.out⟩
          · go_roundw
            case rel => exact ⟨trivial, k + 1, ub, m * 8 + (c - 48), by omega, by go_num, rfl, by first | rfl | go_num, ⟨pv_next 8 t k m c (c - 48) hm0.out.1 HCK.out HNE.out HDV.out (by omega), by omega⟩⟩
            case measure => simp [intOf]; omega
        · exfalso
          have hdv : dv c = c - 55 := by unfold dv; rw [if_neg (by omega), if_pos (by omega)]
          omega
        · exfalso
          have hdv : dv c = c - 87 := by unfold dv; rw [if_neg (by omega), if_neg (by omega)]
          omega
    · obtain rfl : k = t.size := by omega
      have hlt' : decide ((t.size : Int) < t.size) = false := decide_eq_false (by omega)
      have hlt2 : decide (t.size < s.size - 1) = false := decide_eq_false (by have := HZ.out; omega)
      have hv : pv 8 t t.size < 18446744073709551616 := by have h1 := hm0.out.1; omega
      have HM := Aside0.mk hm0.out.1
      have HV := Aside0.mk hv
      clear hv hm0 hlt
      cases ub
      · go_wp2_with fail
        refine bodyPost_ret (results_tmp2 rfl _ _ _) rfl ?_
        exact ⟨.inl ⟨HV.out, by rw [← HM.out]; rfl⟩, HB.out⟩
      · go_wp2_with fail
        refine (HU.out _).mono ?_
        rintro e w2 ⟨rfl, hb2⟩
        have HB2 := Aside0.mk (below_step HB.out hb2)
        clear hb2
        go_wp2_with fail
        refine bodyPost_ret (results_tmp2 rfl _ _ _) rfl ?_
        exact ⟨.inl ⟨HV.out, by rw [← HM.out]; rfl⟩, HB2.out⟩

end Go.Proofs.YtgpoplfgngiilaaGreatDoor
