/- nat.scan at base 0 over a strings.Reader: the form 8z. (wip/gen/sc.py wrote it.) -/
import Derived.Test.YtgpoplfgngiilaaGreatDoorPz
set_option linter.unusedVariables false
set_option linter.unusedSimpArgs false
namespace Go.Proofs.YtgpoplfgngiilaaGreatDoor
open Go.RowKit Go.Proofs.YtgpoplfgngiilaaGreatDoorW.PrintWords PAll Pl


set_option maxHeartbeats 4000000 in
set_option maxRecDepth 100000 in
theorem scan_8z (g : Nat) (s t : ByteArray) (pa : Addr) (w : World) (hT : Tx 8 1 s t) (h0 : bt s 0 = 48) (hg : 1 < g) (hgw : g < w.heap.size) (hr : RdAt w g s 0 (-1)) (hev : Eof w pa) :
    Calls Tryz.prog 109 #[.slice none 0 0, .iface 133 (.pointer (some ⟨g, 0, none⟩)), .int .i64 0, .bool false] w (ScOk 8 (pv 8 t t.size) g s w) := by
  have hssz : s.size ≤ 100000 := hT.size
  have htp := hT.pos
  have hlen := hT.len
  have HLEN := Aside0.mk hlen
  have H := Aside0.mk (read_some g s 0 (-1) w hssz (by omega) hr)
  have b1 : (bt s 0 == 48) = true := by simpa using h0
  clear h0
  have hfz := hT.at_ 0 hT.pos
  have hfr : (bt t 0 == 98) = false ∧ (bt t 0 == 66) = false ∧ (bt t 0 == 111) = false ∧ (bt t 0 == 79) = false ∧ (bt t 0 == 120) = false ∧ (bt t 0 == 88) = false := by
    have h1 := hT.fig0.1.1
    have h2 := hT.fig0.1.2
    unfold dv at h2
    simp only [beq_eq_false_iff_ne]
    split at h2
    · omega
    · split at h2 <;> omega
  obtain ⟨p1, p2, p3, p4, p5, p6⟩ := hfr
  have HFZ := Aside0.mk hfz
  clear hfz
  have HT := Aside0.mk hT
  have HEV := Aside0.mk hev
  have HGW := Aside0.mk hgw
  clear hr hT hev hlen
  go_enter Tryz.func109, Tryz.ntmps109
  go_wp2_with fail
  refine H.out.mono ?_
  rintro e w1 ⟨rfl, hr, ho⟩
  have H2 := Aside0.mk (read_some g s 1 (-1) w1 hssz (by have := HLEN.out; omega) hr)
  have HO1 := Aside0.mk ho
  clear hr ho
  go_wp2_with fail
  refine H2.out.mono ?_
  rintro e w2 ⟨rfl, hr, ho⟩
  have ho := only_trans HO1.out ho
  have h0t : bt s (1 : Nat) = bt t 0 := HFZ.out
  rw [h0t]
  clear h0t
  have HR := Aside0.mk hr
  have HI0 := Aside0.mk (ScI.start (t := t) (b := 8) (a := 1) (s := s) (g := g) (base := w.heap.size) (w := w) (W := w2) ho 48)
  have HE1 := Aside0.mk (HEV.out.only ho hg)
  clear hr ho
  go_wp2_with fail
  refine (maxPow_8 _).mono ?_
  rintro e w' ⟨rfl, rfl⟩
  go_wp2_with fail
  go_loopg [0, 3, 10, 11, 13, 14, 15, 20, 21, 22] (t.size + 1) (fun kq z f c er pr iv ch di i dp W => ∃ (k Z j d cnt : Nat) (P D : Int), kq + k = t.size + 1 ∧ f = .bool false ∧ c = .int .i64 cnt ∧ pr = .int .i32 P ∧ iv = .bool false ∧ di = .int .u64 D ∧ Aside0 (D = (d : Nat)) ∧ i = .int .i64 j ∧ dp = .int .i64 (-1) ∧ j < 21 ∧ ScI 8 1 g s t w.heap.size w W k Z j d z P cnt ∧ ScH 1 g s t pa W k er ch)
  case atStart => exact ⟨0, 0, 0, 0, 0, _, 0, rfl, rfl, rfl, rfl, rfl, rfl, ⟨rfl⟩, rfl, rfl, by omega, HI0.out, ScH.first HT.out.pos HR.out⟩
  case round =>
    obtain ⟨k, Z, j, d, cnt, P, D, hkq, rfl, rfl, rfl, rfl, rfl, HDD, rfl, rfl, hj, hin, hh⟩ := hrel
    have HIN := Aside0.mk hin
    have HKQ := Aside0.mk hkq
    have hcl := hin.cnt_le
    have hkl := hin.k_le
    have hc2 : (cnt : Int) ≤ 100000 := by have := HLEN.out; omega
    have hgp := hin.gp.lt
    have hdb : D * 8 + 8 ≤ 9223372036854775808 := by rw [HDD.out]; exact gp_room8 hj hgp
    have hD0 : 0 ≤ D := by rw [HDD.out]; exact Int.natCast_nonneg _
    have hwz := hin.only.size
    have HEW := Aside0.mk (HEV.out.only hin.only hg)
    have HWZ := Aside0.mk hwz
    clear hkq hgp hwz
    by_cases hlt : k < t.size
    · obtain ⟨rfl, rfl, hrd⟩ := hh.1 hlt
      have hnext := hh
      have HRD := Aside0.mk hrd
      clear hrd hh hin hnext
      have hfk := HT.out.fig k hlt
      obtain ⟨c, hc⟩ : ∃ c, bt t k = c := ⟨_, rfl⟩
      rw [hc] at hfk ⊢
      have HC := Aside0.mk hc
      clear hc
      rcases hfk with ⟨h95, hk0, hpv, hk2⟩ | ⟨hc95, hfg⟩
      · subst h95
        obtain rfl : P = 48 := (HIN.out.prev hk0).2 hpv
        have HK0 := Aside0.mk hk0
        have HK2 := Aside0.mk hk2
        clear hk0 hpv hk2
        go_wp2_with fail
        refine (scan_next 1 g s t k wr HT.out HK2.out HRD.out).mono ?_
        rintro e w2 ⟨rfl, hh2, ho2⟩
        have HH2 := Aside0.mk hh2
        have HIN2 := Aside0.mk (HIN.out.und hlt HK0.out HC.out ho2 HGW.out)
        clear hh2 ho2
        go_wp2_with fail
        obtain ⟨q, rfl⟩ : ∃ q, gk = q + 1 := ⟨gk - 1, by have := HKQ.out; omega⟩
        go_roundg q
        case rel => exact ⟨k + 1, Z, j, d, cnt, 95, D, by have := HKQ.out; omega, rfl, rfl, rfl, rfl, rfl, HDD, rfl, rfl, hj, HIN2.out, HH2.out.some HK2.out⟩
        case measure => omega
      · obtain ⟨hrg, hdb2⟩ := hfg
        have HC95 := Aside0.mk hc95
        have n95 : (c == 95) = false := by simpa using hc95
        have n46 : (c == 46) = false := by simp only [beq_eq_false_iff_ne]; omega
        clear hc95
        have hd12 : 48 ≤ c ∧ c ≤ 55 := fig_low8 hrg hdb2
        obtain ⟨hd1, hd2⟩ := hd12
        have hdv : dv c = c - 48 := if_pos (by omega)
        rw [hdv] at hdb2
        obtain ⟨x, hx⟩ : ∃ x : Nat, (c - 48).toNat = x := ⟨_, rfl⟩
        have HXV : Aside0 ((dv (bt t k)).toNat = x) := ⟨by rw [HC.out, hdv]; exact hx⟩
        have HXB : Aside0 (x < 8) := ⟨by omega⟩
        have HEQ : Aside0 (D * 8 + (c - 48) = ((d * 8 + x : Nat) : Int)) := ⟨by rw [HDD.out]; push_cast; omega⟩
        have HRL : Aside0 (d * 8 + x < 18446744073709551616) := ⟨by have := HDD.out; omega⟩
        have H95 : Aside0 (bt t k ≠ 95) := ⟨by rw [HC.out]; exact HC95.out⟩
        have hcb : c - 48 < 8 := by omega
        clear hx hdv hdb2 HC95 hrg
        by_cases hfull : j + 1 = 21
        · have bfull : ((j : Int) + 1 == 21) = true := by simp only [beq_iff_eq]; omega
          have HFL := Aside0.mk hfull
          clear hfull
          go_wp2_with fail
          rw [HEQ.out]
          refine (scan_mul HIN.out HT.out (by decide) (by decide) (Nat.le_refl _) HWZ.out 9223372036854775808 (d * 8 + x) (by decide) (by decide) HRL.out (HIN.out.next_pos HT.out (by decide) hlt x HXV.out HXB.out H95.out)).mono ?_
          rintro e w2 ⟨v2, rfl, hv2, hb2⟩
          have HV2 := Aside0.mk hv2
          have HB2 := Aside0.mk hb2
          have HRD2 := Aside0.mk (Rd_below HRD.out hb2 HGW.out)
          have HEW2 := Aside0.mk (Eof.below HEW.out hb2 (by have := HGW.out; omega))
          clear hv2 hb2
          by_cases hk2 : k + 1 < t.size
          · have HK2 := Aside0.mk hk2
            clear hk2
            go_wp2_with fail
            refine (scan_next 1 g s t k w2 HT.out HK2.out HRD2.out).mono ?_
            rintro e w3 ⟨rfl, hh2, ho2⟩
            have HH2 := Aside0.mk hh2
            have HIN2 := Aside0.mk (HIN.out.full HT.out (by decide) hlt x HXV.out HXB.out H95.out HFL.out HV2.out HB2.out ho2 HGW.out (Nat.le_refl _))
            clear hh2 ho2
            go_wp2_with fail
            obtain ⟨q, rfl⟩ : ∃ q, gk = q + 1 := ⟨gk - 1, by have := HKQ.out; omega⟩
            go_roundg q
            case rel => exact ⟨k + 1, Z * 8 ^ 21 + (d * 8 + x), 0, 0, cnt + 1, 48, _, by have := HKQ.out; omega, rfl, by go_num, rfl, rfl, rfl, ⟨rfl⟩, rfl, rfl, by omega, HIN2.out, HH2.out.some HK2.out⟩
            case measure => omega
          · have HK2 := Aside0.mk hk2
            clear hk2
            go_wp2_with fail
            refine (scan_last 1 g s t k pa w2 HT.out (by have := HK2.out; omega) HRD2.out hg HEW2.out).mono ?_
            rintro e w3 ⟨rfl, hh2, ho2⟩
            have HH2 := Aside0.mk hh2
            have HIN2 := Aside0.mk (HIN.out.full HT.out (by decide) hlt x HXV.out HXB.out H95.out HFL.out HV2.out HB2.out ho2 HGW.out (Nat.le_refl _))
            clear hh2 ho2
            go_wp2_with fail
            obtain ⟨q, rfl⟩ : ∃ q, gk = q + 1 := ⟨gk - 1, by have := HKQ.out; omega⟩
            go_roundg q
            case rel => exact ⟨k + 1, Z * 8 ^ 21 + (d * 8 + x), 0, 0, cnt + 1, 48, _, by have := HKQ.out; omega, rfl, by go_num, rfl, rfl, rfl, ⟨rfl⟩, rfl, rfl, by omega, HIN2.out, HH2.out.none (by have := HK2.out; omega)⟩
            case measure => omega
        · have bfull : ((j : Int) + 1 == 21) = false := by simp only [beq_eq_false_iff_ne]; omega
          by_cases hk2 : k + 1 < t.size
          · have HK2 := Aside0.mk hk2
            clear hk2
            go_wp2_with fail
            refine (scan_next 1 g s t k wr HT.out HK2.out HRD.out).mono ?_
            rintro e w3 ⟨rfl, hh2, ho2⟩
            have HH2 := Aside0.mk hh2
            have HIN2 := Aside0.mk (HIN.out.dig hlt x HXV.out HXB.out H95.out ho2 HGW.out)
            clear hh2 ho2
            go_wp2_with fail
            obtain ⟨q, rfl⟩ : ∃ q, gk = q + 1 := ⟨gk - 1, by have := HKQ.out; omega⟩
            go_roundg q
            case rel => exact ⟨k + 1, Z, j + 1, d * 8 + x, cnt + 1, 48, _, by have := HKQ.out; omega, rfl, by go_num, rfl, rfl, rfl, HEQ, by go_num, rfl, by omega, HIN2.out, HH2.out.some HK2.out⟩
            case measure => omega
          · have HK2 := Aside0.mk hk2
            clear hk2
            go_wp2_with fail
            refine (scan_last 1 g s t k pa wr HT.out (by have := HK2.out; omega) HRD.out hg HEW.out).mono ?_
            rintro e w3 ⟨rfl, hh2, ho2⟩
            have HH2 := Aside0.mk hh2
            have HIN2 := Aside0.mk (HIN.out.dig hlt x HXV.out HXB.out H95.out ho2 HGW.out)
            clear hh2 ho2
            go_wp2_with fail
            obtain ⟨q, rfl⟩ : ∃ q, gk = q + 1 := ⟨gk - 1, by have := HKQ.out; omega⟩
            go_roundg q
            case rel => exact ⟨k + 1, Z, j + 1, d * 8 + x, cnt + 1, 48, _, by have := HKQ.out; omega, rfl, by go_num, rfl, rfl, rfl, HEQ, by go_num, rfl, by omega, HIN2.out, HH2.out.none (by have := HK2.out; omega)⟩
            case measure => omega
    · obtain rfl : k = t.size := by omega
      obtain ⟨rfl, rfl, hrd⟩ := hh.2 rfl
      have HRD := Aside0.mk hrd
      have hP : P = 48 := (hin.prev HT.out.pos).2 (HT.out.last)
      subst hP
      have hcp : 0 < cnt := hin.cnt_pos HT.out.pos
      have bc : ((cnt : Int) == 0) = false := by simp only [beq_eq_false_iff_ne]; omega
      have heq := fun W => eof_eql pa W
      have hev : wr.cell? ⟨1, 0, none⟩ = some (.iface 279 (.pointer (some pa))) := HEW.out
      clear hin hrd hh
      by_cases hj0 : j = 0
      · subst hj0
        go_wp2_with fail
        refine bodyPost_ret (results_tmp4 rfl _ _ _) rfl ?_
        exact ⟨_, _, rfl, HIN.out.end0, HRD.out, HIN.out.only⟩
      · have hji : (0 : Int) < j := by omega
        have hpw : bigall_pow.f 8 8 (j : Int) = some ((8 ^ j : Nat) : Int) := (pow_8 ⟨j, by omega⟩).trans (congrArg some (by push_cast; rfl))
        have HPW := Aside0.mk hpw
        clear hpw
        go_wp2_with fail
        refine (bigall_pow.calls 8 8 j _ wr HPW.out).mono ?_
        rintro e w2 ⟨rfl, ⟨nn, rfl⟩⟩
        go_wp2_with fail
        rw [HDD.out]
        refine (scan_mul (HIN.out.drewN nn) HT.out (by decide) (by decide) (Nat.le_refl _) HWZ.out (8 ^ j) d (Nat.pow_pos (by decide)) (pow_small8 hj) (HIN.out.d_small8 hj) (HIN.out.end_pos HT.out (by decide))).mono ?_
        rintro e w3 ⟨v3, rfl, hv3, hb3⟩
        have HV3 := Aside0.mk hv3
        have HB3 := Aside0.mk hb3
        clear hv3 hb3
        go_wp2_with fail
        refine bodyPost_ret (results_tmp4 rfl _ _ _) rfl ?_
        exact ⟨_, _, rfl, by rw [HIN.out.gp.eq]; exact HV3.out, Rd_below (blk_drewN HRD.out nn) HB3.out HGW.out, only_base (only_drewN HIN.out.only nn) HB3.out (Nat.le_refl _)⟩
end Go.Proofs.YtgpoplfgngiilaaGreatDoor
