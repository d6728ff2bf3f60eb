/- nat.scan at base 0 over a strings.Reader: the form 16x. (wip/gen/sc.py wrote it.) -/
import Derived.Test.YtgpoplfgngiilaaGreatDoorPz
set_option linter.unusedVariables false
set_option linter.unusedSimpArgs false
namespace Go.Proofs.YtgpoplfgngiilaaGreatDoor
open Go.RowKit Go.Proofs.YtgpoplfgngiilaaGreatDoorW.PrintWords PAll Pl


set_option maxHeartbeats 4000000 in
set_option maxRecDepth 100000 in
theorem scan_16x (g : Nat) (s t : ByteArray) (pa : Addr) (w : World) (hT : Tx 16 2 s t) (h0 : bt s 0 = 48) (h1 : bt s 1 = 120) (hg : 1 < g) (hgw : g < w.heap.size) (hr : RdAt w g s 0 (-1)) (hev : Eof w pa) :
    Calls Tryz.prog 109 #[.slice none 0 0, .iface 133 (.pointer (some ⟨g, 0, none⟩)), .int .i64 0, .bool false] w (ScOk 16 (pv 16 t t.size) g s w) := by
  have hssz : s.size ≤ 100000 := hT.size
  have htp := hT.pos
  have hlen := hT.len
  have HLEN := Aside0.mk hlen
  have H := Aside0.mk (read_some g s 0 (-1) w hssz (by omega) hr)
  have b1 : (bt s 0 == 48) = true := by simpa using h0
  clear h0
  have HT := Aside0.mk hT
  have HEV := Aside0.mk hev
  have HGW := Aside0.mk hgw
  clear hr hT hev hlen
  have q1 : (bt s 1 == 98) = false := by rw [h1]; rfl
  have q2 : (bt s 1 == 66) = false := by rw [h1]; rfl
  have q3 : (bt s 1 == 111) = false := by rw [h1]; rfl
  have q4 : (bt s 1 == 79) = false := by rw [h1]; rfl
  have HQ := Aside0.mk h1
  clear h1
  go_enter Tryz.func109, Tryz.ntmps109
  go_wp2_with fail
  refine H.out.mono ?_
  rintro e w1 ⟨rfl, hr, ho⟩
  have H2 := Aside0.mk (read_some g s 1 (-1) w1 hssz (by have := HLEN.out; omega) hr)
  have HO1 := Aside0.mk ho
  clear hr ho
  go_wp2_with fail
  refine H2.out.mono ?_
  rintro e w2 ⟨rfl, hr, ho⟩
  rw [show bt s (1 : Nat) = bt s 1 from rfl, HQ.out]
  have H3 := Aside0.mk (read_some g s 2 (-1) w2 hssz (by have := HLEN.out; omega) hr)
  have HO2 := Aside0.mk (only_trans HO1.out ho)
  clear hr ho
  go_wp2_with fail
  refine H3.out.mono ?_
  rintro e w3 ⟨rfl, hr, ho⟩
  have ho := only_trans HO2.out ho
  have h0t : bt s (2 : Nat) = bt t 0 := HT.out.at_ 0 HT.out.pos
  rw [h0t]
  clear h0t
  have HR := Aside0.mk hr
  have HI0 := Aside0.mk (ScP.start (t := t) (b := 16) (a := 2) (s := s) (g := g) (base := w.heap.size) (w := w) (W := w3) ho 48)
  have HE1 := Aside0.mk (HEV.out.only ho hg)
  clear hr ho
  go_wp2_with fail
  go_loopg [0, 3, 10, 11, 13, 14, 15, 20, 21, 22] (t.size + 1) (fun kq z f c er pr iv ch di i dp W => ∃ (k Z j d cnt : Nat) (P D : Int) (ws : List Int), kq + k = t.size + 1 ∧ f = .bool false ∧ c = .int .i64 cnt ∧ pr = .int .i32 P ∧ iv = .bool false ∧ di = .int .u64 D ∧ Aside0 (D = (d : Nat)) ∧ i = .int .i64 j ∧ dp = .int .i64 (-1) ∧ j < 16 ∧ ScP 16 2 g s t w.heap.size w W k Z j d ws z P cnt ∧ ScH 2 g s t pa W k er ch)
  case atStart => exact ⟨0, 0, 0, 0, 0, _, 0, [], rfl, rfl, rfl, rfl, rfl, rfl, ⟨rfl⟩, rfl, rfl, by omega, HI0.out, ScH.first HT.out.pos HR.out⟩
  case round =>
    obtain ⟨k, Z, j, d, cnt, P, D, ws, hkq, rfl, rfl, rfl, rfl, rfl, HDD, rfl, rfl, hj, hin, hh⟩ := hrel
    have HIN := Aside0.mk hin
    have HKQ := Aside0.mk hkq
    have hcl := hin.cnt_le
    have hkl := hin.k_le
    have hc2 : (cnt : Int) ≤ 100000 := by have := HLEN.out; omega
    have hgp := hin.gp.lt
    have hdb : D * 16 + 16 ≤ 18446744073709551616 := by rw [HDD.out]; exact gp_room16 hj hgp
    have hD0 : 0 ≤ D := by rw [HDD.out]; exact Int.natCast_nonneg _
    have hwz := hin.only.size
    have HOWN : Aside0 (wr.ownsRow w.heap.size 167 1 u0 ws.length (nums .u64 ws)) := Aside0.mk hin.own
    have HLW : Aside0 ((ws.length + 1) * 8 ≤ 140737488355328) := ⟨by have := hin.len; have := hin.k_le; have := HLEN.out; omega⟩
    have HEW := Aside0.mk (HEV.out.only hin.only hg)
    have HWZ := Aside0.mk hwz
    clear hkq hgp hwz
    by_cases hlt : k < t.size
    · obtain ⟨rfl, rfl, hrd⟩ := hh.1 hlt
      have hnext := hh
      have HRD := Aside0.mk hrd
      clear hrd hh hin hnext
      have hfk := HT.out.fig k hlt
      obtain ⟨c, hc⟩ : ∃ c, bt t k = c := ⟨_, rfl⟩
      rw [hc] at hfk ⊢
      have HC := Aside0.mk hc
      clear hc
      rcases hfk with ⟨h95, hk0, hpv, hk2⟩ | ⟨hc95, hfg⟩
      · subst h95
        obtain rfl : P = 48 := (HIN.out.prev hk0).2 hpv
        have HK0 := Aside0.mk hk0
        have HK2 := Aside0.mk hk2
        clear hk0 hpv hk2
        go_wp2_with fail
        refine (scan_next 2 g s t k wr HT.out HK2.out HRD.out).mono ?_
        rintro e w2 ⟨rfl, hh2, ho2⟩
        have HH2 := Aside0.mk hh2
        have HIN2 := Aside0.mk (HIN.out.und hlt HK0.out HC.out ho2 HGW.out)
        clear hh2 ho2
        go_wp2_with fail
        obtain ⟨q, rfl⟩ : ∃ q, gk = q + 1 := ⟨gk - 1, by have := HKQ.out; omega⟩
        go_roundg q
        case rel => exact ⟨k + 1, Z, j, d, cnt, 95, D, ws, by have := HKQ.out; omega, rfl, rfl, rfl, rfl, rfl, HDD, rfl, rfl, hj, HIN2.out, HH2.out.some HK2.out⟩
        case measure => omega
      · obtain ⟨hrg, hdb2⟩ := hfg
        have HC95 := Aside0.mk hc95
        have n95 : (c == 95) = false := by simpa using hc95
        have n46 : (c == 46) = false := by simp only [beq_eq_false_iff_ne]; omega
        clear hc95
        rcases hrg with ⟨hd1, hd2⟩ | ⟨hd1, hd2⟩ | ⟨hd1, hd2⟩
        · have hdv : dv c = c - 48 := if_pos hd2
          rw [hdv] at hdb2
          obtain ⟨x, hx⟩ : ∃ x : Nat, (c - 48).toNat = x := ⟨_, rfl⟩
          have HXV : Aside0 ((dv (bt t k)).toNat = x) := ⟨by rw [HC.out, hdv]; exact hx⟩
          have HXB : Aside0 (x < 16) := ⟨by omega⟩
          have HEQ : Aside0 (D * 16 + (c - 48) = ((d * 16 + x : Nat) : Int)) := ⟨by rw [HDD.out]; push_cast; omega⟩
          have HRL : Aside0 (d * 16 + x < 18446744073709551616) := ⟨by have := HDD.out; omega⟩
          have H95 : Aside0 (bt t k ≠ 95) := ⟨by rw [HC.out]; exact HC95.out⟩
          have hcb : c - 48 < 16 := by omega
          clear hx hdv hdb2 HC95
          by_cases hfull : j + 1 = 16
          · have bfull : ((j : Int) + 1 == 16) = true := by simp only [beq_iff_eq]; omega
            have HFL := Aside0.mk hfull
            clear hfull
            by_cases hk2 : k + 1 < t.size
            · have HK2 := Aside0.mk hk2
              clear hk2
              go_wp2_with ((with_reducible refine gate_builtin (b := .append) (xs := #[.tmp 193, .tmp 195]) rfl ?_); at_builtin; refine print_append_num (w0 := wr) w.heap.size rfl (.tmp 193) (.tmp 195) 114 167 .u64 8 rfl Tryz.underlying114 info167 (by decide) u0 ws (D * 16 + (c - 48)) rfl rfl HOWN.out (Below.refl _ _) HWZ.out HLW.out ?_; intro v2 w2 hv2 hb2 hgr hat; clear hgr hat; have HV2 := Aside0.mk hv2; have HB2 := Aside0.mk hb2; have HRD2 := Aside0.mk (Rd_below HRD.out hb2 HGW.out); have HEW2 := Aside0.mk (Eof.below HEW.out hb2 (by have := HGW.out; omega)); clear hv2 hb2)
              refine (scan_next 2 g s t k w2 HT.out HK2.out HRD2.out).mono ?_
              rintro e w3 ⟨rfl, hh2, ho2⟩
              have HH2 := Aside0.mk hh2
              have HIN2 := Aside0.mk (HIN.out.full hlt x HXV.out HXB.out H95.out HFL.out (by decide) _ HEQ.out HV2.out HB2.out ho2 HGW.out (Nat.le_refl _))
              clear hh2 ho2
              go_wp2_with fail
              obtain ⟨q, rfl⟩ : ∃ q, gk = q + 1 := ⟨gk - 1, by have := HKQ.out; omega⟩
              go_roundg q
              case rel => exact ⟨k + 1, Z * 16 ^ 16 + (d * 16 + x), 0, 0, cnt + 1, 48, _, _, by have := HKQ.out; omega, rfl, by go_num, rfl, rfl, rfl, ⟨rfl⟩, rfl, rfl, by omega, HIN2.out, HH2.out.some HK2.out⟩
              case measure => omega
            · have HK2 := Aside0.mk hk2
              clear hk2
              go_wp2_with ((with_reducible refine gate_builtin (b := .append) (xs := #[.tmp 193, .tmp 195]) rfl ?_); at_builtin; refine print_append_num (w0 := wr) w.heap.size rfl (.tmp 193) (.tmp 195) 114 167 .u64 8 rfl Tryz.underlying114 info167 (by decide) u0 ws (D * 16 + (c - 48)) rfl rfl HOWN.out (Below.refl _ _) HWZ.out HLW.out ?_; intro v2 w2 hv2 hb2 hgr hat; clear hgr hat; have HV2 := Aside0.mk hv2; have HB2 := Aside0.mk hb2; have HRD2 := Aside0.mk (Rd_below HRD.out hb2 HGW.out); have HEW2 := Aside0.mk (Eof.below HEW.out hb2 (by have := HGW.out; omega)); clear hv2 hb2)
              refine (scan_last 2 g s t k pa w2 HT.out (by have := HK2.out; omega) HRD2.out hg HEW2.out).mono ?_
              rintro e w3 ⟨rfl, hh2, ho2⟩
              have HH2 := Aside0.mk hh2
              have HIN2 := Aside0.mk (HIN.out.full hlt x HXV.out HXB.out H95.out HFL.out (by decide) _ HEQ.out HV2.out HB2.out ho2 HGW.out (Nat.le_refl _))
              clear hh2 ho2
              go_wp2_with fail
              obtain ⟨q, rfl⟩ : ∃ q, gk = q + 1 := ⟨gk - 1, by have := HKQ.out; omega⟩
              go_roundg q
              case rel => exact ⟨k + 1, Z * 16 ^ 16 + (d * 16 + x), 0, 0, cnt + 1, 48, _, _, by have := HKQ.out; omega, rfl, by go_num, rfl, rfl, rfl, ⟨rfl⟩, rfl, rfl, by omega, HIN2.out, HH2.out.none (by have := HK2.out; omega)⟩
              case measure => omega
          · have bfull : ((j : Int) + 1 == 16) = false := by simp only [beq_eq_false_iff_ne]; omega
            by_cases hk2 : k + 1 < t.size
            · have HK2 := Aside0.mk hk2
              clear hk2
              go_wp2_with fail
              refine (scan_next 2 g s t k wr HT.out HK2.out HRD.out).mono ?_
              rintro e w3 ⟨rfl, hh2, ho2⟩
              have HH2 := Aside0.mk hh2
              have HIN2 := Aside0.mk (HIN.out.dig hlt x HXV.out HXB.out H95.out ho2 HGW.out)
              clear hh2 ho2
              go_wp2_with fail
              obtain ⟨q, rfl⟩ : ∃ q, gk = q + 1 := ⟨gk - 1, by have := HKQ.out; omega⟩
              go_roundg q
              case rel => exact ⟨k + 1, Z, j + 1, d * 16 + x, cnt + 1, 48, _, _, by have := HKQ.out; omega, rfl, by go_num, rfl, rfl, rfl, HEQ, by go_num, rfl, by omega, HIN2.out, HH2.out.some HK2.out⟩
              case measure => omega
            · have HK2 := Aside0.mk hk2
              clear hk2
              go_wp2_with fail
              refine (scan_last 2 g s t k pa wr HT.out (by have := HK2.out; omega) HRD.out hg HEW.out).mono ?_
              rintro e w3 ⟨rfl, hh2, ho2⟩
              have HH2 := Aside0.mk hh2
              have HIN2 := Aside0.mk (HIN.out.dig hlt x HXV.out HXB.out H95.out ho2 HGW.out)
              clear hh2 ho2
              go_wp2_with fail
              obtain ⟨q, rfl⟩ : ∃ q, gk = q + 1 := ⟨gk - 1, by have := HKQ.out; omega⟩
              go_roundg q
              case rel => exact ⟨k + 1, Z, j + 1, d * 16 + x, cnt + 1, 48, _, _, by have := HKQ.out; omega, rfl, by go_num, rfl, rfl, rfl, HEQ, by go_num, rfl, by omega, HIN2.out, HH2.out.none (by have := HK2.out; omega)⟩
              case measure => omega
        · have hdv : dv c = c - 55 := (if_neg (by omega)).trans (if_pos hd2)
          rw [hdv] at hdb2
          obtain ⟨x, hx⟩ : ∃ x : Nat, (c - 55).toNat = x := ⟨_, rfl⟩
          have HXV : Aside0 ((dv (bt t k)).toNat = x) := ⟨by rw [HC.out, hdv]; exact hx⟩
          have HXB : Aside0 (x < 16) := ⟨by omega⟩
          have HEQ : Aside0 (D * 16 + (c - 65 + 10) = ((d * 16 + x : Nat) : Int)) := ⟨by rw [HDD.out]; push_cast; omega⟩
          have HRL : Aside0 (d * 16 + x < 18446744073709551616) := ⟨by have := HDD.out; omega⟩
          have H95 : Aside0 (bt t k ≠ 95) := ⟨by rw [HC.out]; exact HC95.out⟩
          have hcb : c - 65 + 10 < 16 := by omega
          clear hx hdv hdb2 HC95
          by_cases hfull : j + 1 = 16
          · have bfull : ((j : Int) + 1 == 16) = true := by simp only [beq_iff_eq]; omega
            have HFL := Aside0.mk hfull
            clear hfull
            by_cases hk2 : k + 1 < t.size
            · have HK2 := Aside0.mk hk2
              clear hk2
              go_wp2_with ((with_reducible refine gate_builtin (b := .append) (xs := #[.tmp 193, .tmp 195]) rfl ?_); at_builtin; refine print_append_num (w0 := wr) w.heap.size rfl (.tmp 193) (.tmp 195) 114 167 .u64 8 rfl Tryz.underlying114 info167 (by decide) u0 ws (D * 16 + (c - 65 + 10)) rfl rfl HOWN.out (Below.refl _ _) HWZ.out HLW.out ?_; intro v2 w2 hv2 hb2 hgr hat; clear hgr hat; have HV2 := Aside0.mk hv2; have HB2 := Aside0.mk hb2; have HRD2 := Aside0.mk (Rd_below HRD.out hb2 HGW.out); have HEW2 := Aside0.mk (Eof.below HEW.out hb2 (by have := HGW.out; omega)); clear hv2 hb2)
              refine (scan_next 2 g s t k w2 HT.out HK2.out HRD2.out).mono ?_
              rintro e w3 ⟨rfl, hh2, ho2⟩
              have HH2 := Aside0.mk hh2
              have HIN2 := Aside0.mk (HIN.out.full hlt x HXV.out HXB.out H95.out HFL.out (by decide) _ HEQ.out HV2.out HB2.out ho2 HGW.out (Nat.le_refl _))
              clear hh2 ho2
              go_wp2_with fail
              obtain ⟨q, rfl⟩ : ∃ q, gk = q + 1 := ⟨gk - 1, by have := HKQ.out; omega⟩
              go_roundg q
              case rel => exact ⟨k + 1, Z * 16 ^ 16 + (d * 16 + x), 0, 0, cnt + 1, 48, _, _, by have := HKQ.out; omega, rfl, by go_num, rfl, rfl, rfl, ⟨rfl⟩, rfl, rfl, by omega, HIN2.out, HH2.out.some HK2.out⟩
              case measure => omega
            · have HK2 := Aside0.mk hk2
              clear hk2
              go_wp2_with ((with_reducible refine gate_builtin (b := .append) (xs := #[.tmp 193, .tmp 195]) rfl ?_); at_builtin; refine print_append_num (w0 := wr) w.heap.size rfl (.tmp 193) (.tmp 195) 114 167 .u64 8 rfl Tryz.underlying114 info167 (by decide) u0 ws (D * 16 + (c - 65 + 10)) rfl rfl HOWN.out (Below.refl _ _) HWZ.out HLW.out ?_; intro v2 w2 hv2 hb2 hgr hat; clear hgr hat; have HV2 := Aside0.mk hv2; have HB2 := Aside0.mk hb2; have HRD2 := Aside0.mk (Rd_below HRD.out hb2 HGW.out); have HEW2 := Aside0.mk (Eof.below HEW.out hb2 (by have := HGW.out; omega)); clear hv2 hb2)
              refine (scan_last 2 g s t k pa w2 HT.out (by have := HK2.out; omega) HRD2.out hg HEW2.out).mono ?_
              rintro e w3 ⟨rfl, hh2, ho2⟩
              have HH2 := Aside0.mk hh2
              have HIN2 := Aside0.mk (HIN.out.full hlt x HXV.out HXB.out H95.out HFL.out (by decide) _ HEQ.out HV2.out HB2.out ho2 HGW.out (Nat.le_refl _))
              clear hh2 ho2
              go_wp2_with fail
              obtain ⟨q, rfl⟩ : ∃ q, gk = q + 1 := ⟨gk - 1, by have := HKQ.out; omega⟩
              go_roundg q
              case rel => exact ⟨k + 1, Z * 16 ^ 16 + (d * 16 + x), 0, 0, cnt + 1, 48, _, _, by have := HKQ.out; omega, rfl, by go_num, rfl, rfl, rfl, ⟨rfl⟩, rfl, rfl, by omega, HIN2.out, HH2.out.none (by have := HK2.out; omega)⟩
              case measure => omega
          · have bfull : ((j : Int) + 1 == 16) = false := by simp only [beq_eq_false_iff_ne]; omega
            by_cases hk2 : k + 1 < t.size
            · have HK2 := Aside0.mk hk2
              clear hk2
              go_wp2_with fail
              refine (scan_next 2 g s t k wr HT.out HK2.out HRD.out).mono ?_
              rintro e w3 ⟨rfl, hh2, ho2⟩
              have HH2 := Aside0.mk hh2
              have HIN2 := Aside0.mk (HIN.out.dig hlt x HXV.out HXB.out H95.out ho2 HGW.out)
              clear hh2 ho2
              go_wp2_with fail
              obtain ⟨q, rfl⟩ : ∃ q, gk = q + 1 := ⟨gk - 1, by have := HKQ.out; omega⟩
              go_roundg q
              case rel => exact ⟨k + 1, Z, j + 1, d * 16 + x, cnt + 1, 48, _, _, by have := HKQ.out; omega, rfl, by go_num, rfl, rfl, rfl, HEQ, by go_num, rfl, by omega, HIN2.out, HH2.out.some HK2.out⟩
              case measure => omega
            · have HK2 := Aside0.mk hk2
              clear hk2
              go_wp2_with fail
              refine (scan_last 2 g s t k pa wr HT.out (by have := HK2.out; omega) HRD.out hg HEW.out).mono ?_
              rintro e w3 ⟨rfl, hh2, ho2⟩
              have HH2 := Aside0.mk hh2
              have HIN2 := Aside0.mk (HIN.out.dig hlt x HXV.out HXB.out H95.out ho2 HGW.out)
              clear hh2 ho2
              go_wp2_with fail
              obtain ⟨q, rfl⟩ : ∃ q, gk = q + 1 := ⟨gk - 1, by have := HKQ.out; omega⟩
              go_roundg q
              case rel => exact ⟨k + 1, Z, j + 1, d * 16 + x, cnt + 1, 48, _, _, by have := HKQ.out; omega, rfl, by go_num, rfl, rfl, rfl, HEQ, by go_num, rfl, by omega, HIN2.out, HH2.out.none (by have := HK2.out; omega)⟩
              case measure => omega
        · have hdv : dv c = c - 87 := (if_neg (by omega)).trans (if_neg (by omega))
          rw [hdv] at hdb2
          obtain ⟨x, hx⟩ : ∃ x : Nat, (c - 87).toNat = x := ⟨_, rfl⟩
          have HXV : Aside0 ((dv (bt t k)).toNat = x) := ⟨by rw [HC.out, hdv]; exact hx⟩
          have HXB : Aside0 (x < 16) := ⟨by omega⟩
          have HEQ : Aside0 (D * 16 + (c - 97 + 10) = ((d * 16 + x : Nat) : Int)) := ⟨by rw [HDD.out]; push_cast; omega⟩
          have HRL : Aside0 (d * 16 + x < 18446744073709551616) := ⟨by have := HDD.out; omega⟩
          have H95 : Aside0 (bt t k ≠ 95) := ⟨by rw [HC.out]; exact HC95.out⟩
          have hcb : c - 97 + 10 < 16 := by omega
          clear hx hdv hdb2 HC95
          by_cases hfull : j + 1 = 16
          · have bfull : ((j : Int) + 1 == 16) = true := by simp only [beq_iff_eq]; omega
            have HFL := Aside0.mk hfull
            clear hfull
            by_cases hk2 : k + 1 < t.size
            · have HK2 := Aside0.mk hk2
              clear hk2
              go_wp2_with ((with_reducible refine gate_builtin (b := .append) (xs := #[.tmp 193, .tmp 195]) rfl ?_); at_builtin; refine print_append_num (w0 := wr) w.heap.size rfl (.tmp 193) (.tmp 195) 114 167 .u64 8 rfl Tryz.underlying114 info167 (by decide) u0 ws (D * 16 + (c - 97 + 10)) rfl rfl HOWN.out (Below.refl _ _) HWZ.out HLW.out ?_; intro v2 w2 hv2 hb2 hgr hat; clear hgr hat; have HV2 := Aside0.mk hv2; have HB2 := Aside0.mk hb2; have HRD2 := Aside0.mk (Rd_below HRD.out hb2 HGW.out); have HEW2 := Aside0.mk (Eof.below HEW.out hb2 (by have := HGW.out; omega)); clear hv2 hb2)
              refine (scan_next 2 g s t k w2 HT.out HK2.out HRD2.out).mono ?_
              rintro e w3 ⟨rfl, hh2, ho2⟩
              have HH2 := Aside0.mk hh2
              have HIN2 := Aside0.mk (HIN.out.full hlt x HXV.out HXB.out H95.out HFL.out (by decide) _ HEQ.out HV2.out HB2.out ho2 HGW.out (Nat.le_refl _))
              clear hh2 ho2
              go_wp2_with fail
              obtain ⟨q, rfl⟩ : ∃ q, gk = q + 1 := ⟨gk - 1, by have := HKQ.out; omega⟩
              go_roundg q
              case rel => exact ⟨k + 1, Z * 16 ^ 16 + (d * 16 + x), 0, 0, cnt + 1, 48, _, _, by have := HKQ.out; omega, rfl, by go_num, rfl, rfl, rfl, ⟨rfl⟩, rfl, rfl, by omega, HIN2.out, HH2.out.some HK2.out⟩
              case measure => omega
            · have HK2 := Aside0.mk hk2
              clear hk2
              go_wp2_with ((with_reducible refine gate_builtin (b := .append) (xs := #[.tmp 193, .tmp 195]) rfl ?_); at_builtin; refine print_append_num (w0 := wr) w.heap.size rfl (.tmp 193) (.tmp 195) 114 167 .u64 8 rfl Tryz.underlying114 info167 (by decide) u0 ws (D * 16 + (c - 97 + 10)) rfl rfl HOWN.out (Below.refl _ _) HWZ.out HLW.out ?_; intro v2 w2 hv2 hb2 hgr hat; clear hgr hat; have HV2 := Aside0.mk hv2; have HB2 := Aside0.mk hb2; have HRD2 := Aside0.mk (Rd_below HRD.out hb2 HGW.out); have HEW2 := Aside0.mk (Eof.below HEW.out hb2 (by have := HGW.out; omega)); clear hv2 hb2)
              refine (scan_last 2 g s t k pa w2 HT.out (by have := HK2.out; omega) HRD2.out hg HEW2.out).mono ?_
              rintro e w3 ⟨rfl, hh2, ho2⟩
              have HH2 := Aside0.mk hh2
              have HIN2 := Aside0.mk (HIN.out.full hlt x HXV.out HXB.out H95.out HFL.out (by decide) _ HEQ.out HV2.out HB2.out ho2 HGW.out (Nat.le_refl _))
              clear hh2 ho2
              go_wp2_with fail
              obtain ⟨q, rfl⟩ : ∃ q, gk = q + 1 := ⟨gk - 1, by have := HKQ.out; omega⟩
              go_roundg q
              case rel => exact ⟨k + 1, Z * 16 ^ 16 + (d * 16 + x), 0, 0, cnt + 1, 48, _, _, by have := HKQ.out; omega, rfl, by go_num, rfl, rfl, rfl, ⟨rfl⟩, rfl, rfl, by omega, HIN2.out, HH2.out.none (by have := HK2.out; omega)⟩
              case measure => omega
          · have bfull : ((j : Int) + 1 == 16) = false := by simp only [beq_eq_false_iff_ne]; omega
            by_cases hk2 : k + 1 < t.size
            · have HK2 := Aside0.mk hk2
              clear hk2
              go_wp2_with fail
              refine (scan_next 2 g s t k wr HT.out HK2.out HRD.out).mono ?_
              rintro e w3 ⟨rfl, hh2, ho2⟩
              have HH2 := Aside0.mk hh2
              have HIN2 := Aside0.mk (HIN.out.dig hlt x HXV.out HXB.out H95.out ho2 HGW.out)
              clear hh2 ho2
              go_wp2_with fail
              obtain ⟨q, rfl⟩ : ∃ q, gk = q + 1 := ⟨gk - 1, by have := HKQ.out; omega⟩
              go_roundg q
              case rel => exact ⟨k + 1, Z, j + 1, d * 16 + x, cnt + 1, 48, _, _, by have := HKQ.out; omega, rfl, by go_num, rfl, rfl, rfl, HEQ, by go_num, rfl, by omega, HIN2.out, HH2.out.some HK2.out⟩
              case measure => omega
            · have HK2 := Aside0.mk hk2
              clear hk2
              go_wp2_with fail
              refine (scan_last 2 g s t k pa wr HT.out (by have := HK2.out; omega) HRD.out hg HEW.out).mono ?_
              rintro e w3 ⟨rfl, hh2, ho2⟩
              have HH2 := Aside0.mk hh2
              have HIN2 := Aside0.mk (HIN.out.dig hlt x HXV.out HXB.out H95.out ho2 HGW.out)
              clear hh2 ho2
              go_wp2_with fail
              obtain ⟨q, rfl⟩ : ∃ q, gk = q + 1 := ⟨gk - 1, by have := HKQ.out; omega⟩
              go_roundg q
              case rel => exact ⟨k + 1, Z, j + 1, d * 16 + x, cnt + 1, 48, _, _, by have := HKQ.out; omega, rfl, by go_num, rfl, rfl, rfl, HEQ, by go_num, rfl, by omega, HIN2.out, HH2.out.none (by have := HK2.out; omega)⟩
              case measure => omega
    · obtain rfl : k = t.size := by omega
      obtain ⟨rfl, rfl, hrd⟩ := hh.2 rfl
      have HRD := Aside0.mk hrd
      have hP : P = 48 := (hin.prev HT.out.pos).2 (HT.out.last)
      subst hP
      have hcp : 0 < cnt := hin.cnt_pos HT.out.pos
      have bc : ((cnt : Int) == 0) = false := by simp only [beq_eq_false_iff_ne]; omega
      have heq := fun W => eof_eql pa W
      have hev : wr.cell? ⟨1, 0, none⟩ = some (.iface 279 (.pointer (some pa))) := HEW.out
      clear hin hrd hh
      by_cases hj0 : j = 0
      · subst hj0
        obtain ⟨hne, hve⟩ := HIN.out.end0 HT.out (by decide)
        have HNE := Aside0.mk hne
        have HVE := Aside0.mk hve
        clear hne hve
        go_wp2_with fail
        refine (reverse_nt w.heap.size _ ws wr HNE.out (by have := HIN.out.len; have := HLEN.out; omega) HWZ.out HIN.out.own).mono ?_
        rintro e w2 ⟨rfl, hv2, hb2⟩
        have HV2 := Aside0.mk hv2
        have HB2 := Aside0.mk hb2
        clear hv2 hb2
        go_wp2_with fail
        refine (norm_nt w.heap.size _ _ w2 (rev_ne HNE.out) (rev_Dg HIN.out.dg) HV2.out).mono ?_
        rintro e w' ⟨v3, rfl, hv3, rfl⟩
        rw [HVE.out] at hv3
        have HV3 := Aside0.mk hv3
        clear hv3
        go_wp2_with fail
        refine bodyPost_ret (results_tmp4 rfl _ _ _) rfl ?_
        exact ⟨_, _, rfl, HV3.out, Rd_below HRD.out HB2.out HGW.out, only_base HIN.out.only HB2.out (Nat.le_refl _)⟩
      · have hji : (0 : Int) < j := by omega
        have hjn : (j : Int) < 16 := by omega
        obtain ⟨m, hm⟩ : ∃ m : Nat, m = 16 - j := ⟨_, rfl⟩
        have hmi : 16 - (j : Int) = m := by omega
        have hpw : bigall_pow.f 8 16 (16 - (j : Int)) = some ((16 ^ m : Nat) : Int) := by rw [hmi]; exact (pow_16 ⟨m, by omega⟩).trans (congrArg some (by push_cast; rfl))
        obtain ⟨Y, hY⟩ : ∃ Y : Int, Y = ((d * 16 ^ m : Nat) : Int) := ⟨_, rfl⟩
        obtain ⟨hy1, hy2, hy3⟩ := HIN.out.endj (n := 16) (by decide) hj (by decide) Y (by rw [← hm]; exact hY)
        rw [← hm] at hy1 hy3
        have HYW : Aside0 (IntKind.u64.wrap (D * ((16 ^ m : Nat) : Int)) = Y) := ⟨by rw [hY, HDD.out, ← Int.natCast_mul]; exact wu64 (Int.natCast_nonneg _) (by omega)⟩
        have HSH : Aside0 ((16 - (j : Int)) * 4 = ((m * 4 : Nat) : Int)) := ⟨by omega⟩
        have hml : 0 < m * 4 ∧ m * 4 < 64 := by omega
        have HML := Aside0.mk hml
        have HPW := Aside0.mk hpw
        have HMI := Aside0.mk hmi
        have HM := Aside0.mk hm
        have HY1 := Aside0.mk hy1
        have HY2 := Lib.hid hy2
        have HY3 := Aside0.mk hy3
        clear hpw hmi hm hy1 hy2 hy3 hY hml
        go_wp2_with fail
        refine (bigall_pow.calls 8 16 _ _ wr HPW.out).mono ?_
        rintro e w2 ⟨rfl, ⟨nn, rfl⟩⟩
        obtain ⟨q, hq⟩ : ∃ q : Int, q = ((16 ^ m : Nat) : Int) := ⟨_, rfl⟩
        rw [← hq] at HYW ⊢
        clear hq
        have HOWN2 : Aside0 ((wr.drewN nn).ownsRow w.heap.size 167 1 u0 ws.length (nums .u64 ws)) := Aside0.mk (HIN.out.drewN nn).own
        go_wp2_with ((with_reducible refine gate_builtin (b := .append) (xs := #[.tmp 232, .tmp 240]) rfl ?_); at_builtin; rw [HYW.out]; refine print_append_num (w0 := wr.drewN nn) w.heap.size rfl (.tmp 232) (.tmp 240) 114 167 .u64 8 rfl Tryz.underlying114 info167 (by decide) u0 ws Y rfl rfl HOWN2.out (Below.refl _ _) HWZ.out HLW.out ?_; intro v2 w2 hv2 hb2 hgr hat; clear hgr hat; have HV2 : Aside0 (Nt w2 w.heap.size v2 (ws ++ [Y])) := Aside0.mk hv2; have HB2 := Aside0.mk hb2; clear hv2 hb2)
        refine (reverse_nt w.heap.size _ (ws ++ [Y]) w2 (by simp) (by have := HIN.out.len; have := HLEN.out; simp; omega) (Nat.le_trans HWZ.out HB2.out.size) HV2.out).mono ?_
        rintro e w3 ⟨rfl, hv3, hb3⟩
        have HV3 := Aside0.mk hv3
        have HB3 := Aside0.mk hb3
        clear hv3 hb3
        go_wp2_with fail
        refine (norm_nt w.heap.size _ _ w3 (rev_ne (by simp)) (rev_Dg HY2.out) HV3.out).mono ?_
        rintro e w' ⟨v4, rfl, hv4, rfl⟩
        rw [HY3.out] at hv4
        have HV4 := Aside0.mk hv4
        clear hv4
        go_wp2_with fail
        rw [HSH.out]
        refine (rsh_nt w.heap.size _ (m * 4) v4 w3 (HIN.out.prod_pos HT.out m) (pv_len HT.out (by decide) (by decide) m (by have := HM.out; exact pow_le16 (by omega))) HML.out.1 HML.out.2 (Nat.le_trans (Nat.le_trans HWZ.out HB2.out.size) HB3.out.size) HV4.out).mono ?_
        rintro e w4 ⟨v5, rfl, hv5, hb5⟩
        rw [div_back16] at hv5
        have HV5 := Aside0.mk hv5
        have HB5 := Aside0.mk ((HB2.out.trans HB3.out).trans hb5)
        clear hv5 hb5
        go_wp2_with fail
        refine bodyPost_ret (results_tmp4 rfl _ _ _) rfl ?_
        exact ⟨_, _, rfl, HV5.out, Rd_below (blk_drewN HRD.out nn) HB5.out HGW.out, only_base (only_drewN HIN.out.only nn) HB5.out (Nat.le_refl _)⟩
end Go.Proofs.YtgpoplfgngiilaaGreatDoor
