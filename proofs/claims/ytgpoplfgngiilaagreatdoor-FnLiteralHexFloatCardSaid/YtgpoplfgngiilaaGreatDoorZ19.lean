/- scanExponent behind a great P. (wip/gen/xp.py wrote it out of Xe.) nat.scan at a hexadecimal text with a point: the walk, the prefix's letter x. (wip/gen/sp.py wrote it.) nat.scan at a hexadecimal text with a point: the walk, the prefix's letter X. (wip/gen/sp.py wrote it.) -/
import Derived.Test.YtgpoplfgngiilaaGreatDoorZ14
import Derived.Test.YtgpoplfgngiilaaGreatDoorZ15
set_option linter.unusedVariables false
set_option linter.unusedSimpArgs false
namespace Go.Proofs.YtgpoplfgngiilaaGreatDoor
open Go.RowKit Go.Proofs.YtgpoplfgngiilaaGreatDoorW.PrintWords PAll Pl

set_option maxHeartbeats 8000000 in
set_option maxRecDepth 100000 in
theorem xe_anyP (x : Int) (g k a : Nat) (s t : ByteArray) (pre : List Int) (w : World) (hT : Xt a s t) (hp : bt s k = 80) (hS : SgC a k s pre) (hpi : Lib.parseIntB 64 (strOfNums (pre ++ tb t t.size)).data.toList = .ok x) (pa : Addr) (hg : 1 < g) (hgw : g < w.heap.size) (hr : RdAt w g s k (-1)) (hev : Eof w pa) :
    Calls Tryz.prog 112 #[.iface 133 (.pointer (some ⟨g, 0, none⟩)), .bool true, .bool true] w (XeOk x g s w) := by
  have hak : k + 1 ≤ a ∧ a ≤ k + 2 := by rcases hS with h | h | h <;> omega
  have hlen := hT.len
  have hpos := hT.pos
  have HR1 := Aside0.mk (read_some g s k (-1) w hT.size (by omega) hr)
  have b0 : (bt s k == 101) = false := by rw [hp]; rfl
  have b1 : (bt s k == 69) = false := by rw [hp]; rfl
  have b2 : (bt s k == 112) = false := by rw [hp]; rfl
  have b3 : (bt s k == 80) = true := by rw [hp]; rfl
  have hf0 : 48 ≤ bt t 0 ∧ bt t 0 ≤ 57 := hT.fig 0 hpos
  have HF0 := Aside0.mk hf0
  have HT := Aside0.mk hT
  have HEV := Aside0.mk hev
  have HGW := Aside0.mk hgw
  have HPI := Aside0.mk hpi
  have HS := Aside0.mk hS
  have HAK := Aside0.mk (And.intro hak (And.intro hlen hpos))
  clear hr hT hp hf0 hev hpi hS hak hlen hpos
  go_enter Tryz.func112, Tryz.ntmps112
  go_wp2_with fail
  refine HR1.out.mono ?_
  rintro e w1 ⟨rfl, hr1, ho1⟩
  have HO1 := Aside0.mk ho1
  have HE1 := Aside0.mk (HEV.out.only ho1 hg)
  clear HR1
  have HR2 := Aside0.mk (read_some g s (k + 1) (-1) w1 HT.out.size (by have := HAK.out; omega) hr1)
  obtain ⟨c1, hc1⟩ : ∃ c, c = bt s (k + 1 : Nat) := ⟨_, rfl⟩
  rw [← hc1] at HR2
  have HC1 := Aside0.mk hc1
  clear hr1 ho1 hc1
  go_wp2_with fail
  refine HR2.out.mono ?_
  rintro e w2 ⟨rfl, hr2, ho2⟩
  have HRD2 := Aside0.mk hr2
  have HO2 := Aside0.mk (only_trans HO1.out ho2)
  have HE2 := Aside0.mk (HE1.out.only ho2 hg)
  clear hr2 ho2 HR2
  obtain ⟨sg, hsg⟩ : ∃ b : Bool, b = (c1 == 43 || c1 == 45) := ⟨_, rfl⟩
  have HSG := Aside0.mk hsg
  clear hsg
  go_upto_region 18 with (fail)
  go_cut [49] (fun z W => z = .bool sg ∧ W = w2)
  case first =>
    by_cases h43 : c1 = 43
    · have n43 : (c1 == 43) = true := by simp [h43]
      clear h43
      go_wp2_with fail
      go_meet
      exact ⟨by rw [HSG.out, n43]; rfl, rfl⟩
    · have n43 : (c1 == 43) = false := by simp [h43]
      clear h43
      by_cases h45 : c1 = 45
      · have n45 : (c1 == 45) = true := by simp [h45]
        clear h45
        go_wp2_with fail
        go_meet
        exact ⟨by rw [HSG.out, n45, Bool.or_true], rfl⟩
      · have n45 : (c1 == 45) = false := by simp [h45]
        clear h45
        go_wp2_with fail
        go_meet
        exact ⟨by rw [HSG.out, n43, n45]; rfl, rfl⟩
  case rest =>
    obtain ⟨rfl, hw⟩ := hcut
    subst hw
    have hwz : w.heap.size ≤ wc.heap.size := HO2.out.size
    have HWZ := Aside0.mk hwz
    go_upto_if 49 with (fail)
    go_cut [8, 9, 10] (fun er ch v W => XeS a g s t pre w er ch v W)
    case first =>
      rcases HS.out with ⟨ha, hpre⟩ | ⟨ha, h43, hpre⟩ | ⟨ha, h45, hpre⟩
      · have hce : c1 = bt t 0 := by rw [HC1.out, ← ha]; exact HT.out.at_ 0 HAK.out.2.2
        have hb : sg = false := by
          have := HF0.out
          rw [HSG.out]
          simp only [Bool.or_eq_false_iff, beq_eq_false_iff_ne]; omega
        subst hb
        have HCE := Aside0.mk hce
        have HA := Aside0.mk (And.intro ha hpre)
        clear hce ha hpre
        go_wp2_with fail
        go_meet
        refine ⟨rfl, by rw [HCE.out], ?_, ?_, HO2.out⟩
        · rw [HA.out.2]; exact own_nil _ _ _ _
        · rw [HA.out.1]; exact HRD2.out
      · have hb : sg = true := by rw [HSG.out, HC1.out, h43]; rfl
        subst hb
        have n45 : (c1 == 45) = false := by rw [HC1.out, h43]; rfl
        have n43 : (c1 == 43) = true := by rw [HC1.out, h43]; rfl
        have HR3 := Aside0.mk (read_some g s (k + 1 + 1) (-1) wc HT.out.size (by have := HAK.out; omega) HRD2.out)
        rw [show bt s (k + 1 + 1 : Nat) = bt t 0 by rw [show k + 1 + 1 = a by omega]; exact HT.out.at_ 0 HAK.out.2.2] at HR3
        have HA := Aside0.mk (And.intro ha hpre)
        clear ha hpre h43
        go_wp2_with fail
        refine HR3.out.mono ?_
        rintro e w3 ⟨rfl, hr3, ho3⟩
        have H3 := Aside0.mk (And.intro hr3 ho3)
        clear hr3 ho3
        go_wp2_with fail
        go_meet
        refine ⟨rfl, rfl, ?_, ?_, only_trans HO2.out H3.out.2⟩
        · rw [HA.out.2]; exact own_nil _ _ _ _
        · rw [HA.out.1]; exact H3.out.1
      · have hb : sg = true := by rw [HSG.out, HC1.out, h45]; rfl
        subst hb
        have n45 : (c1 == 45) = true := by rw [HC1.out, h45]; rfl
        have n43 : (c1 == 43) = false := by rw [HC1.out, h45]; rfl
        have hnil := own_nil wc w.heap.size 5 1
        have HNIL := Aside0.mk hnil
        have HA := Aside0.mk (And.intro ha hpre)
        have HBT := Aside0.mk (show bt s (k + 1 + 1 : Nat) = bt t 0 by rw [show k + 1 + 1 = a by omega]; exact HT.out.at_ 0 HAK.out.2.2)
        clear ha hpre h45 hnil
        go_wp2_with ((with_reducible refine gate_builtin (b := .append) (xs := #[.tmp 52, .tmp 53]) rfl ?_); at_builtin; refine print_append_num (w0 := wc) w.heap.size rfl (.tmp 52) (.tmp 53) 44 5 .u8 1 rfl Tryz.underlying44 info5b (by decide) (.slice none 0 0) [] 45 rfl rfl HNIL.out (Below.refl _ _) HWZ.out (by decide) ?_; intro v2 w2 hv2 hb2 hgr hat; clear hgr hat; have HV2 := Aside0.mk hv2; have HB2 := Aside0.mk hb2; clear hv2 hb2)
        refine (read_some g s (k + 1 + 1) (-1) w2 HT.out.size (by have := HAK.out; have := HA.out.1; omega) (Rd_below HRD2.out HB2.out HGW.out)).mono ?_
        rintro e w3 ⟨rfl, hr3, ho3⟩
        rw [HBT.out]
        have H3 := Aside0.mk (And.intro hr3 ho3)
        clear hr3 ho3
        go_wp2_with fail
        go_meet
        refine ⟨rfl, rfl, ?_, ?_, only_trans (only_base HO2.out HB2.out (Nat.le_refl _)) H3.out.2⟩
        · rw [HA.out.2]; exact World.ownsRow.kept HV2.out H3.out.2 (by
            rcases hv : v2.ownBlock with _ | kk
            · exact .inl rfl
            · right
              intro e
              cases e
              have := own_base HV2.out _ hv
              have := HGW.out
              omega)
        · rw [HA.out.1]; exact H3.out.1
    case rest =>
    obtain ⟨rfl, rfl, hv0, hrd0, ho0⟩ := hcut
    have HV0 := Aside0.mk hv0
    have HRD0 := Aside0.mk hrd0
    have HO0 := Aside0.mk ho0
    have HE0 := Aside0.mk (HEV.out.only ho0 hg)
    clear hv0 hrd0 ho0 HO1 HE1 HRD2 HO2 HE2 HWZ HC1
    go_wp2_with fail
    go_loopg [8, 9, 10, 11, 12, 13] (t.size + 1) (fun kq er ch v pr iv hd W => ∃ (j : Nat) (P : Int) (hb : Bool), kq + j = t.size + 1 ∧ iv = .bool false ∧ pr = .int .i32 P ∧ (P == 95) = false ∧ hd = .bool hb ∧ (hb = true ∨ j = 0) ∧ j ≤ t.size ∧ ScH a g s t pa W j er ch ∧ Bw8 w W v (pre ++ tb t j) ∧ w.grownBy W (some g))
    case atStart => exact ⟨0, 46, false, rfl, rfl, rfl, rfl, rfl, .inr rfl, Nat.zero_le _, ScH.first HAK.out.2.2 HRD0.out, by rw [tb, List.append_nil]; exact HV0.out, HO0.out⟩
    case round =>
    obtain ⟨j, P, hb, hkq, rfl, rfl, hP, rfl, hhb, hjl, hsc, hbw, hon⟩ := hrel
    have HSC := Aside0.mk hsc
    have HBW := Aside0.mk hbw
    have HON := Aside0.mk hon
    have HKQ := Aside0.mk hkq
    have HHB := Aside0.mk hhb
    have HE := Aside0.mk (HEV.out.only hon hg)
    have hwr : w.heap.size ≤ wr.heap.size := hon.size
    have HWR := Aside0.mk hwr
    rcases Nat.lt_or_ge j t.size with hj | hj
    · obtain ⟨he, hc, hrd⟩ := HSC.out.1 hj
      subst he hc
      have hfg := HT.out.fig j hj
      obtain ⟨c, hce⟩ : ∃ c, c = bt t (j : Nat) := ⟨_, rfl⟩
      rw [← hce] at hfg ⊢
      have f1 : 48 ≤ c := hfg.1
      have f2 : c ≤ 57 := hfg.2
      have HCE := Aside0.mk hce
      have HRD := Aside0.mk hrd
      have HJ := Aside0.mk hj
      have HLB := Aside0.mk (show ((pre ++ tb t j).length + 1) * 1 ≤ 140737488355328 by
        have h1 := HT.out.le
        have h2 : pre.length ≤ 1 := by rcases HS.out with h | h | h <;> (first | (rw [h.2]; decide) | (rw [h.2.2]; decide))
        rw [List.length_append, tb_len]; omega)
      clear hsc hbw hon hkq hhb hfg hce hrd hwr hj
      go_wp2_with ((with_reducible refine gate_builtin (b := .append) (xs := #[.tmp 68, .tmp 70]) rfl ?_); at_builtin; refine print_append_num (w0 := wr) w.heap.size rfl (.tmp 68) (.tmp 70) 44 5 .u8 1 rfl Tryz.underlying44 info5b (by decide) _ (pre ++ tb t j) c rfl rfl HBW.out (Below.refl _ _) HWR.out HLB.out ?_; intro v2 w2 hv2 hb2 hgr hat; clear hgr hat; have HV2 := Aside0.mk hv2; have HB2 := Aside0.mk hb2; clear hv2 hb2)
      have HRD2 := Aside0.mk (Rd_below HRD.out HB2.out HGW.out)
      have HE2 := Aside0.mk (HE.out.below HB2.out (by have := HGW.out; omega))
      have HON2 := Aside0.mk (only_base HON.out HB2.out (Nat.le_refl _))
      have HOWN := Lib.hid (fun (w3 : World) (ho : w2.grownBy w3 (some g)) => show Bw8 w w3 v2 (pre ++ tb t (j + 1)) by
        have h := HV2.out
        rw [List.append_assoc, HCE.out] at h
        exact World.ownsRow.kept (show w2.ownsRow w.heap.size 5 1 v2 (pre ++ tb t (j + 1)).length (nums .u8 (pre ++ tb t (j + 1))) from h) ho (by
          rcases hv : v2.ownBlock with _ | kk
          · exact .inl rfl
          · right
            intro e
            cases e
            have := own_base HV2.out _ hv
            have := HGW.out
            omega))
      by_cases hj1 : j + 1 < t.size
      · refine (xe_next a g s t j w2 HT.out hj1 HRD2.out).mono ?_
        rintro e w3 ⟨rfl, hh3, ho3⟩
        have H3 := Aside0.mk (And.intro hh3 ho3)
        have HJ1 := Aside0.mk hj1
        clear hh3 ho3 hj1
        go_wp2_with fail
        obtain ⟨q2, rfl⟩ : ∃ q, gk = q + 1 := ⟨gk - 1, by have := HKQ.out; have := HJ1.out; omega⟩
        go_roundg q2
        case rel => exact ⟨j + 1, 48, true, by have := HKQ.out; omega, rfl, rfl, rfl, rfl, .inl rfl, Nat.le_of_lt HJ1.out, H3.out.1.some HJ1.out, HOWN.out _ H3.out.2, only_trans HON2.out H3.out.2⟩
        case measure => omega
      · have hjl' : j + 1 = t.size := by have := HJ.out; omega
        refine (xe_last a g s t j pa w2 HT.out hjl' HRD2.out hg HE2.out).mono ?_
        rintro e w3 ⟨rfl, hh3, ho3⟩
        have H3 := Aside0.mk (And.intro hh3 ho3)
        have HJ1 := Aside0.mk hjl'
        clear hh3 ho3 hj1 hjl'
        go_wp2_with fail
        obtain ⟨q2, rfl⟩ : ∃ q, gk = q + 1 := ⟨gk - 1, by have := HKQ.out; have := HJ1.out; omega⟩
        go_roundg q2
        case rel => exact ⟨j + 1, 48, true, by have := HKQ.out; omega, rfl, rfl, rfl, rfl, .inl rfl, Nat.le_of_eq HJ1.out, H3.out.1.none HJ1.out, HOWN.out _ H3.out.2, only_trans HON2.out H3.out.2⟩
        case measure => omega
    · obtain rfl : j = t.size := by omega
      obtain ⟨he, hc, hrd⟩ := HSC.out.2 rfl
      subst he hc
      have hb1 : hb = true := by rcases hhb with h | h; exact h; exact absurd HAK.out.2.2 (by omega)
      subst hb1
      obtain ⟨h8, cap8, hv8, hc8⟩ := Bw8_form HBW.out (by
        have h1 := HAK.out.2.2
        intro h
        have h2 := congrArg List.length h
        rw [List.length_append, tb_len, List.length_nil] at h2
        omega)
      have hcv := run_convert_bytes_arg (P := Tryz.prog) wr 44 5 Tryz.underlying44 Tryz.underlying5 h8 0 (pre ++ tb t t.size).length cap8 (pre ++ tb t t.size) rfl hc8 9 Tryz.underlying9
      have heq := fun W => eof_eql pa W
      have hevw : wr.cell? ⟨1, 0, none⟩ = some (.iface 279 (.pointer (some pa))) := HE.out
      have heq2 := fun W => run_eql_iface_nil_left (P := Tryz.prog) (w := W) 279 (.pointer (some pa)) Tryz.underlying85
      have HPJ := Aside0.mk (Tryz.strconv_ParseInt_10_at64_ok (strOfNums (pre ++ tb t t.size)) (by
        have h1 := HT.out.le
        have h2 : pre.length ≤ 1 := by rcases HS.out with h | h | h <;> (first | (rw [h.2]; decide) | (rw [h.2.2]; decide))
        rw [strOfNums_size, List.length_append, tb_len]; omega) x HPI.out wr)
      obtain ⟨ln, hln⟩ : ∃ n, n = (pre ++ tb t t.size).length := ⟨_, rfl⟩
      obtain ⟨S, hSd⟩ : ∃ S, S = strOfNums (pre ++ tb t t.size) := ⟨_, rfl⟩
      rw [← hln, ← hSd] at hcv
      rw [← hln] at hv8
      rw [← hSd] at HPJ
      subst hv8
      have HRD := Aside0.mk hrd
      clear hsc hbw hon hkq hhb hrd hc8 hln hSd hwr HSC HBW hj hjl
      go_wp2_with fail
      refine HPJ.out.mono ?_
      rintro e w3 ⟨rfl, hw3⟩
      have hB3 : Below wr.heap.size wr w3 := by
        rcases hw3 with rfl | ⟨tt, rfl⟩
        · exact Below.refl _ _
        · exact ⟨rfl, rfl, rfl, by rw [Lib.bytesWorld_size]; omega, fun i hi => Lib.bytesWorld_at_old wr 5 tt i hi⟩
      have HB3 := Aside0.mk hB3
      clear hw3 hB3
      go_wp2_with fail
      refine bodyPost_ret (results_tmp3 rfl _ _ _) rfl ?_
      exact ⟨rfl, Rd_below HRD.out HB3.out (Nat.lt_of_lt_of_le HGW.out HWR.out), only_base HON.out HB3.out HWR.out⟩
end Go.Proofs.YtgpoplfgngiilaaGreatDoor

namespace Go.Proofs.YtgpoplfgngiilaaGreatDoor
open Go.RowKit Go.Proofs.YtgpoplfgngiilaaGreatDoorW.PrintWords PAll Pl

set_option maxHeartbeats 4000000 in
set_option maxRecDepth 100000 in
theorem scan_px (q g : Nat) (s u : ByteArray) (w : World) (hT : TxP q s u) (h0 : bt s 0 = 48) (h1 : bt s 1 = 120) (pa : Addr) (hg : 1 < g) (hgw : g < w.heap.size) (hr : RdAt w g s 0 (-1)) (hev : Eof w pa) :
    Calls Tryz.prog 109 #[.slice none 0 0, .iface 133 (.pointer (some ⟨g, 0, none⟩)), .int .i64 0, .bool true] w (SqOk q (pv 16 u u.size) u.size g s w) := by
  have hssz : s.size ≤ 100000 := hT.size
  have hroom := hT.room
  have hup := hT.pos
  have hqle := hT.qle
  have HROOM := Aside0.mk hroom
  have H := Aside0.mk (read_some g s 0 (-1) w hssz (by omega) hr)
  have b1 : (bt s 0 == 48) = true := by simpa using h0
  clear h0
  have HT := Aside0.mk hT
  have HEV := Aside0.mk hev
  have HGW := Aside0.mk hgw
  clear hr hT hev hroom
  have q1 : (bt s 1 == 98) = false := by rw [h1]; rfl
  have q2 : (bt s 1 == 66) = false := by rw [h1]; rfl
  have q3 : (bt s 1 == 111) = false := by rw [h1]; rfl
  have q4 : (bt s 1 == 79) = false := by rw [h1]; rfl
  have HQ := Aside0.mk h1
  clear h1
  go_enter Tryz.func109, Tryz.ntmps109
  go_wp2_with fail
  refine H.out.mono ?_
  rintro e w1 ⟨rfl, hr, ho⟩
  have H2 := Aside0.mk (read_some g s 1 (-1) w1 hssz (by have := HROOM.out; omega) hr)
  have HO1 := Aside0.mk ho
  clear hr ho
  go_wp2_with fail
  refine H2.out.mono ?_
  rintro e w2 ⟨rfl, hr, ho⟩
  rw [show bt s (1 : Nat) = bt s 1 from rfl, HQ.out]
  have H3 := Aside0.mk (read_some g s 2 (-1) w2 hssz (by have := HROOM.out; omega) hr)
  have HO2 := Aside0.mk (only_trans HO1.out ho)
  clear hr ho
  go_wp2_with fail
  refine H3.out.mono ?_
  rintro e w3 ⟨rfl, hr, ho⟩
  have ho := only_trans HO2.out ho
  have HR := Aside0.mk hr
  have HI0 := Aside0.mk (ScQ.start (u := u) (g := g) (base := w.heap.size) (w := w) (W := w3) ho)
  have HE1 := Aside0.mk (HEV.out.only ho hg)
  clear hr ho
  go_wp2_with fail
  go_loopg [0, 3, 10, 11, 13, 14, 15, 20, 21, 22] (u.size + 5) (fun kq z f c er pr iv ch di i dp W => ∃ (k p Z j d : Nat) (P D C DP : Int) (fb : Bool) (ws : List Int), kq + p = u.size + 7 ∧ f = .bool fb ∧ c = .int .i64 k ∧ pr = .int .i32 P ∧ (P == 95) = false ∧ iv = .bool false ∧ di = .int .u64 D ∧ Aside0 (D = (d : Nat)) ∧ i = .int .i64 j ∧ dp = .int .i64 DP ∧ (fb = true ∨ DP = q) ∧ j < 16 ∧ er = .nilIface ∧ ch = .int .u8 C ∧ Aside0 (C = bt s (p : Nat)) ∧ StP q u.size fb k p ∧ ScQ g u w.heap.size w W k Z j d ws z ∧ RdAt W g s (p + 1 : Nat) (-1))
  case atStart => exact ⟨0, 2, 0, 0, 0, 48, 0, _, -1, true, [], by omega, rfl, rfl, rfl, rfl, rfl, rfl, ⟨rfl⟩, rfl, rfl, .inl rfl, by omega, rfl, rfl, ⟨rfl⟩, .inl ⟨rfl, Nat.zero_le _, rfl⟩, HI0.out, HR.out⟩
  case round =>
    obtain ⟨k, p, Z, j, d, P, D, C, DP, fb, ws, hkq, rfl, rfl, rfl, hP, rfl, rfl, HDD, rfl, rfl, hDP, hj, rfl, rfl, hC, hst, hin, hrd⟩ := hrel
    have hple := StP.le hqle hst
    have HPP : Aside0 (p < s.size) := ⟨by have := HROOM.out; omega⟩
    have HIN := Aside0.mk hin
    have HKQ := Aside0.mk hkq
    have HRD := Aside0.mk hrd
    have hcs := hst.cases HT.out
    have hc2 : (k : Int) ≤ 100000 := by have := HROOM.out; omega
    have hgp := hin.gp.lt
    have hdb : D * 16 + 16 ≤ 18446744073709551616 := by rw [HDD.out]; exact gp_room16 hj hgp
    have hD0 : 0 ≤ D := by rw [HDD.out]; exact Int.natCast_nonneg _
    have hwz := hin.only.size
    have HOWN : Aside0 (wr.ownsRow w.heap.size 167 1 u0 ws.length (nums .u64 ws)) := Aside0.mk hin.own
    have HLW : Aside0 ((ws.length + 1) * 8 ≤ 140737488355328) := ⟨by have := hin.len; have := hin.k_le; have := HROOM.out; omega⟩
    have HEW := Aside0.mk (HEV.out.only hin.only hg)
    have HWZ := Aside0.mk hwz
    have HPLE := Aside0.mk hple
    clear hkq hgp hwz hin hrd hst hple
    rcases hcs with ⟨hlt, hck, hst2⟩ | ⟨rfl, rfl, hck, hst2⟩ | ⟨rfl, rfl, hpe, hck⟩
    · have hfk := HT.out.fig k hlt
      rw [← hck, ← hC.out] at hfk
      obtain ⟨hc95, hrg, hdb2⟩ := hfk
      have HCU : Aside0 (C = bt u k) := ⟨hC.out.trans hck⟩
      have HST2 := Aside0.mk hst2
      have HNX : Aside0 (p + 1 < s.size) := ⟨by have := hst2.le hqle; have := HROOM.out; omega⟩
      have HC95 := Aside0.mk hc95
      have HLT := Aside0.mk hlt
      have n95 : (C == 95) = false := by simpa using hc95
      have n46 : (C == 46) = false := by simp only [beq_eq_false_iff_ne]; omega
      have HDPQ := Aside0.mk hDP
      clear hc95 hck hst2 hC hlt hDP
      rcases hrg with ⟨hd1, hd2⟩ | ⟨hd1, hd2⟩ | ⟨hd1, hd2⟩
      · have hdv : dv C = C - 48 := if_pos hd2
        rw [hdv] at hdb2
        obtain ⟨x, hx⟩ : ∃ x : Nat, (C - 48).toNat = x := ⟨_, rfl⟩
        have HXV : Aside0 ((dv (bt u k)).toNat = x) := ⟨by rw [← HCU.out, hdv]; exact hx⟩
        have HXB : Aside0 (x < 16) := ⟨by omega⟩
        have HEQ : Aside0 (D * 16 + (C - 48) = ((d * 16 + x : Nat) : Int)) := ⟨by rw [HDD.out]; push_cast; omega⟩
        have H95 : Aside0 (bt u k ≠ 95) := ⟨by rw [← HCU.out]; exact HC95.out⟩
        have hcb : C - 48 < 16 := by omega
        clear hx hdv hdb2 HC95
        by_cases hfull : j + 1 = 16
        · have bfull : ((j : Int) + 1 == 16) = true := by simp only [beq_iff_eq]; omega
          have HFL := Aside0.mk hfull
          clear hfull
          go_wp2_with ((with_reducible refine gate_builtin (b := .append) (xs := #[.tmp 193, .tmp 195]) rfl ?_); at_builtin; refine print_append_num (w0 := wr) w.heap.size rfl (.tmp 193) (.tmp 195) 114 167 .u64 8 rfl Tryz.underlying114 info167 (by decide) u0 ws (D * 16 + (C - 48)) rfl rfl HOWN.out (Below.refl _ _) HWZ.out HLW.out ?_; intro v2 w2 hv2 hb2 hgr hat; clear hgr hat; have HV2 := Aside0.mk hv2; have HB2 := Aside0.mk hb2; have HRD2 := Aside0.mk (Rd_below HRD.out hb2 HGW.out); have HEW2 := Aside0.mk (Eof.below HEW.out hb2 (by have := HGW.out; omega)); clear hv2 hb2)
          refine (sq_next g s p w2 hssz HNX.out HRD2.out).mono ?_
          rintro e w3 ⟨rfl, hh2, ho2⟩
          have HH2 := Aside0.mk hh2
          have HIN2 := Aside0.mk (HIN.out.full HLT.out x HXV.out HXB.out H95.out HFL.out _ HEQ.out HV2.out HB2.out ho2 HGW.out (Nat.le_refl _))
          clear hh2 ho2
          go_wp2_with fail
          obtain ⟨q2, rfl⟩ : ∃ q, gk = q + 1 := ⟨gk - 1, by have := HKQ.out; have := HPLE.out; omega⟩
          go_roundg q2
          case rel => exact ⟨k + 1, p + 1, Z * 16 ^ 16 + (d * 16 + x), 0, 0, 48, 0, _, _, _, _, by have := HKQ.out; omega, rfl, by go_num, rfl, rfl, rfl, rfl, ⟨rfl⟩, rfl, rfl, HDPQ.out, by omega, rfl, rfl, ⟨rfl⟩, HST2.out, HIN2.out, HH2.out⟩
          case measure => omega
        · have bfull : ((j : Int) + 1 == 16) = false := by simp only [beq_eq_false_iff_ne]; omega
          go_wp2_with fail
          refine (sq_next g s p wr hssz HNX.out HRD.out).mono ?_
          rintro e w3 ⟨rfl, hh2, ho2⟩
          have HH2 := Aside0.mk hh2
          have HIN2 := Aside0.mk (HIN.out.dig HLT.out x HXV.out HXB.out H95.out ho2 HGW.out)
          clear hh2 ho2
          go_wp2_with fail
          obtain ⟨q2, rfl⟩ : ∃ q, gk = q + 1 := ⟨gk - 1, by have := HKQ.out; have := HPLE.out; omega⟩
          go_roundg q2
          case rel => exact ⟨k + 1, p + 1, Z, j + 1, d * 16 + x, 48, _, _, _, _, _, by have := HKQ.out; omega, rfl, by go_num, rfl, rfl, rfl, rfl, HEQ, by go_num, rfl, HDPQ.out, by omega, rfl, rfl, ⟨rfl⟩, HST2.out, HIN2.out, HH2.out⟩
          case measure => omega
      · have hdv : dv C = C - 55 := (if_neg (by omega)).trans (if_pos hd2)
        rw [hdv] at hdb2
        obtain ⟨x, hx⟩ : ∃ x : Nat, (C - 55).toNat = x := ⟨_, rfl⟩
        have HXV : Aside0 ((dv (bt u k)).toNat = x) := ⟨by rw [← HCU.out, hdv]; exact hx⟩
        have HXB : Aside0 (x < 16) := ⟨by omega⟩
        have HEQ : Aside0 (D * 16 + (C - 65 + 10) = ((d * 16 + x : Nat) : Int)) := ⟨by rw [HDD.out]; push_cast; omega⟩
        have H95 : Aside0 (bt u k ≠ 95) := ⟨by rw [← HCU.out]; exact HC95.out⟩
        have hcb : C - 65 + 10 < 16 := by omega
        clear hx hdv hdb2 HC95
        by_cases hfull : j + 1 = 16
        · have bfull : ((j : Int) + 1 == 16) = true := by simp only [beq_iff_eq]; omega
          have HFL := Aside0.mk hfull
          clear hfull
          go_wp2_with ((with_reducible refine gate_builtin (b := .append) (xs := #[.tmp 193, .tmp 195]) rfl ?_); at_builtin; refine print_append_num (w0 := wr) w.heap.size rfl (.tmp 193) (.tmp 195) 114 167 .u64 8 rfl Tryz.underlying114 info167 (by decide) u0 ws (D * 16 + (C - 65 + 10)) rfl rfl HOWN.out (Below.refl _ _) HWZ.out HLW.out ?_; intro v2 w2 hv2 hb2 hgr hat; clear hgr hat; have HV2 := Aside0.mk hv2; have HB2 := Aside0.mk hb2; have HRD2 := Aside0.mk (Rd_below HRD.out hb2 HGW.out); have HEW2 := Aside0.mk (Eof.below HEW.out hb2 (by have := HGW.out; omega)); clear hv2 hb2)
          refine (sq_next g s p w2 hssz HNX.out HRD2.out).mono ?_
          rintro e w3 ⟨rfl, hh2, ho2⟩
          have HH2 := Aside0.mk hh2
          have HIN2 := Aside0.mk (HIN.out.full HLT.out x HXV.out HXB.out H95.out HFL.out _ HEQ.out HV2.out HB2.out ho2 HGW.out (Nat.le_refl _))
          clear hh2 ho2
          go_wp2_with fail
          obtain ⟨q2, rfl⟩ : ∃ q, gk = q + 1 := ⟨gk - 1, by have := HKQ.out; have := HPLE.out; omega⟩
          go_roundg q2
          case rel => exact ⟨k + 1, p + 1, Z * 16 ^ 16 + (d * 16 + x), 0, 0, 48, 0, _, _, _, _, by have := HKQ.out; omega, rfl, by go_num, rfl, rfl, rfl, rfl, ⟨rfl⟩, rfl, rfl, HDPQ.out, by omega, rfl, rfl, ⟨rfl⟩, HST2.out, HIN2.out, HH2.out⟩
          case measure => omega
        · have bfull : ((j : Int) + 1 == 16) = false := by simp only [beq_eq_false_iff_ne]; omega
          go_wp2_with fail
          refine (sq_next g s p wr hssz HNX.out HRD.out).mono ?_
          rintro e w3 ⟨rfl, hh2, ho2⟩
          have HH2 := Aside0.mk hh2
          have HIN2 := Aside0.mk (HIN.out.dig HLT.out x HXV.out HXB.out H95.out ho2 HGW.out)
          clear hh2 ho2
          go_wp2_with fail
          obtain ⟨q2, rfl⟩ : ∃ q, gk = q + 1 := ⟨gk - 1, by have := HKQ.out; have := HPLE.out; omega⟩
          go_roundg q2
          case rel => exact ⟨k + 1, p + 1, Z, j + 1, d * 16 + x, 48, _, _, _, _, _, by have := HKQ.out; omega, rfl, by go_num, rfl, rfl, rfl, rfl, HEQ, by go_num, rfl, HDPQ.out, by omega, rfl, rfl, ⟨rfl⟩, HST2.out, HIN2.out, HH2.out⟩
          case measure => omega
      · have hdv : dv C = C - 87 := (if_neg (by omega)).trans (if_neg (by omega))
        rw [hdv] at hdb2
        obtain ⟨x, hx⟩ : ∃ x : Nat, (C - 87).toNat = x := ⟨_, rfl⟩
        have HXV : Aside0 ((dv (bt u k)).toNat = x) := ⟨by rw [← HCU.out, hdv]; exact hx⟩
        have HXB : Aside0 (x < 16) := ⟨by omega⟩
        have HEQ : Aside0 (D * 16 + (C - 97 + 10) = ((d * 16 + x : Nat) : Int)) := ⟨by rw [HDD.out]; push_cast; omega⟩
        have H95 : Aside0 (bt u k ≠ 95) := ⟨by rw [← HCU.out]; exact HC95.out⟩
        have hcb : C - 97 + 10 < 16 := by omega
        clear hx hdv hdb2 HC95
        by_cases hfull : j + 1 = 16
        · have bfull : ((j : Int) + 1 == 16) = true := by simp only [beq_iff_eq]; omega
          have HFL := Aside0.mk hfull
          clear hfull
          go_wp2_with ((with_reducible refine gate_builtin (b := .append) (xs := #[.tmp 193, .tmp 195]) rfl ?_); at_builtin; refine print_append_num (w0 := wr) w.heap.size rfl (.tmp 193) (.tmp 195) 114 167 .u64 8 rfl Tryz.underlying114 info167 (by decide) u0 ws (D * 16 + (C - 97 + 10)) rfl rfl HOWN.out (Below.refl _ _) HWZ.out HLW.out ?_; intro v2 w2 hv2 hb2 hgr hat; clear hgr hat; have HV2 := Aside0.mk hv2; have HB2 := Aside0.mk hb2; have HRD2 := Aside0.mk (Rd_below HRD.out hb2 HGW.out); have HEW2 := Aside0.mk (Eof.below HEW.out hb2 (by have := HGW.out; omega)); clear hv2 hb2)
          refine (sq_next g s p w2 hssz HNX.out HRD2.out).mono ?_
          rintro e w3 ⟨rfl, hh2, ho2⟩
          have HH2 := Aside0.mk hh2
          have HIN2 := Aside0.mk (HIN.out.full HLT.out x HXV.out HXB.out H95.out HFL.out _ HEQ.out HV2.out HB2.out ho2 HGW.out (Nat.le_refl _))
          clear hh2 ho2
          go_wp2_with fail
          obtain ⟨q2, rfl⟩ : ∃ q, gk = q + 1 := ⟨gk - 1, by have := HKQ.out; have := HPLE.out; omega⟩
          go_roundg q2
          case rel => exact ⟨k + 1, p + 1, Z * 16 ^ 16 + (d * 16 + x), 0, 0, 48, 0, _, _, _, _, by have := HKQ.out; omega, rfl, by go_num, rfl, rfl, rfl, rfl, ⟨rfl⟩, rfl, rfl, HDPQ.out, by omega, rfl, rfl, ⟨rfl⟩, HST2.out, HIN2.out, HH2.out⟩
          case measure => omega
        · have bfull : ((j : Int) + 1 == 16) = false := by simp only [beq_eq_false_iff_ne]; omega
          go_wp2_with fail
          refine (sq_next g s p wr hssz HNX.out HRD.out).mono ?_
          rintro e w3 ⟨rfl, hh2, ho2⟩
          have HH2 := Aside0.mk hh2
          have HIN2 := Aside0.mk (HIN.out.dig HLT.out x HXV.out HXB.out H95.out ho2 HGW.out)
          clear hh2 ho2
          go_wp2_with fail
          obtain ⟨q2, rfl⟩ : ∃ q, gk = q + 1 := ⟨gk - 1, by have := HKQ.out; have := HPLE.out; omega⟩
          go_roundg q2
          case rel => exact ⟨k + 1, p + 1, Z, j + 1, d * 16 + x, 48, _, _, _, _, _, by have := HKQ.out; omega, rfl, by go_num, rfl, rfl, rfl, rfl, HEQ, by go_num, rfl, HDPQ.out, by omega, rfl, rfl, ⟨rfl⟩, HST2.out, HIN2.out, HH2.out⟩
          case measure => omega
    · obtain rfl : C = 46 := hC.out.trans hck
      have HST2 := Aside0.mk hst2
      have HNX : Aside0 (p + 1 < s.size) := ⟨by have := hst2.le hqle; have := HROOM.out; omega⟩
      clear hck hst2 hC hDP
      go_wp2_with fail
      refine (sq_next g s p wr hssz HNX.out HRD.out).mono ?_
      rintro e w3 ⟨rfl, hh2, ho2⟩
      have HH2 := Aside0.mk hh2
      have HIN2 := Aside0.mk (HIN.out.move ho2 HGW.out)
      clear hh2 ho2
      go_wp2_with fail
      obtain ⟨q2, rfl⟩ : ∃ q, gk = q + 1 := ⟨gk - 1, by have := HKQ.out; have := HPLE.out; omega⟩
      go_roundg q2
      case rel => exact ⟨k, p + 1, Z, j, d, 46, _, _, _, _, _, by have := HKQ.out; omega, rfl, rfl, rfl, rfl, rfl, rfl, HDD, rfl, rfl, .inr rfl, by omega, rfl, rfl, ⟨rfl⟩, HST2.out, HIN2.out, HH2.out⟩
      case measure => omega
    · obtain rfl : DP = q := by simpa using hDP
      rw [← hC.out] at hck
      have n46 : (C == 46) = false := by simp only [beq_eq_false_iff_ne]; omega
      have n95 : (C == 95) = false := by simp only [beq_eq_false_iff_ne]; omega
      have bc : ((u.size : Int) == 0) = false := by simp only [beq_eq_false_iff_ne]; omega
      have hq0 : (0 : Int) ≤ q := by omega
      have HUN := Aside0.mk (unread g s p (-1) wr (by have := HROOM.out; omega) HRD.out)
      have hev : wr.cell? ⟨1, 0, none⟩ = some (.iface 279 (.pointer (some pa))) := HEW.out
      have heq := fun W => run_eql_iface_nil_left (P := Tryz.prog) (w := W) 279 (.pointer (some pa)) Tryz.underlying85
      have HPE := Aside0.mk hpe
      clear hC hDP hpe
      by_cases hj0 : j = 0
      · subst hj0
        obtain ⟨hne, hve⟩ := HIN.out.end0 hup
        have HNE := Aside0.mk hne
        have HVE := Aside0.mk hve
        clear hne hve
        rcases hck with rfl | rfl
        all_goals
          go_wp2_with fail
          refine HUN.out.mono ?_
          rintro e wu ⟨rfl, hru, hou⟩
          have HRU := Aside0.mk hru
          have HIU := Aside0.mk (HIN.out.move hou HGW.out)
          have HZU := Aside0.mk (Nat.le_trans HWZ.out hou.size)
          have hevu : wu.cell? ⟨1, 0, none⟩ = some (.iface 279 (.pointer (some pa))) := HEW.out.only hou hg
          clear hru hou
          go_wp2_with fail
          refine (reverse_nt w.heap.size _ ws wu HNE.out (by have := HIN.out.len; have := HROOM.out; omega) HZU.out HIU.out.own).mono ?_
          rintro e w2 ⟨rfl, hv2, hb2⟩
          have HV2 := Aside0.mk hv2
          have HB2 := Aside0.mk hb2
          clear hv2 hb2
          go_wp2_with fail
          refine (norm_nt w.heap.size _ _ w2 (rev_ne HNE.out) (rev_Dg HIN.out.dg) HV2.out).mono ?_
          rintro e w' ⟨v3, rfl, hv3, rfl⟩
          rw [HVE.out] at hv3
          have HV3 := Aside0.mk hv3
          clear hv3
          go_wp2_with fail
          refine bodyPost_ret (results_tmp4 rfl _ _ _) rfl ?_
          exact ⟨_, rfl, HV3.out, by have h := Rd_below HRU.out HB2.out HGW.out; rw [HPE.out] at h; exact h, only_base HIU.out.only HB2.out (Nat.le_refl _)⟩
      · have hji : (0 : Int) < j := by omega
        have hjn : (j : Int) < 16 := by omega
        obtain ⟨m, hm⟩ : ∃ m : Nat, m = 16 - j := ⟨_, rfl⟩
        have hmi : 16 - (j : Int) = m := by omega
        have hpw : bigall_pow.f 8 16 (16 - (j : Int)) = some ((16 ^ m : Nat) : Int) := by rw [hmi]; exact (pow_16 ⟨m, by omega⟩).trans (congrArg some (by push_cast; rfl))
        obtain ⟨Y, hY⟩ : ∃ Y : Int, Y = ((d * 16 ^ m : Nat) : Int) := ⟨_, rfl⟩
        obtain ⟨hy1, hy2, hy3⟩ := HIN.out.endj hj Y (by rw [← hm]; exact hY)
        rw [← hm] at hy1 hy3
        have HYW : Aside0 (IntKind.u64.wrap (D * ((16 ^ m : Nat) : Int)) = Y) := ⟨by rw [hY, HDD.out, ← Int.natCast_mul]; exact wu64 (Int.natCast_nonneg _) (by omega)⟩
        have HSH : Aside0 ((16 - (j : Int)) * 4 = ((m * 4 : Nat) : Int)) := ⟨by omega⟩
        have hml : 0 < m * 4 ∧ m * 4 < 64 := by omega
        have HML := Aside0.mk hml
        have HPW := Aside0.mk hpw
        have HMI := Aside0.mk hmi
        have HM := Aside0.mk hm
        have HY2 := Lib.hid hy2
        have HY3 := Aside0.mk hy3
        clear hpw hmi hm hy1 hy2 hy3 hY hml
        rcases hck with rfl | rfl
        all_goals
          go_wp2_with fail
          refine HUN.out.mono ?_
          rintro e wu ⟨rfl, hru, hou⟩
          have HRU := Aside0.mk hru
          have HIU := Aside0.mk (HIN.out.move hou HGW.out)
          have HZU := Aside0.mk (Nat.le_trans HWZ.out hou.size)
          have hevu : wu.cell? ⟨1, 0, none⟩ = some (.iface 279 (.pointer (some pa))) := HEW.out.only hou hg
          clear hru hou
          go_wp2_with fail
          refine (bigall_pow.calls 8 16 _ _ wu HPW.out).mono ?_
          rintro e w2 ⟨rfl, ⟨nn, rfl⟩⟩
          obtain ⟨q5, hq5⟩ : ∃ q : Int, q = ((16 ^ m : Nat) : Int) := ⟨_, rfl⟩
          rw [← hq5] at HYW ⊢
          clear hq5
          have HOWN2 : Aside0 ((wu.drewN nn).ownsRow w.heap.size 167 1 u0 ws.length (nums .u64 ws)) := Aside0.mk (HIU.out.drewN nn).own
          go_wp2_with ((with_reducible refine gate_builtin (b := .append) (xs := #[.tmp 232, .tmp 240]) rfl ?_); at_builtin; rw [HYW.out]; refine print_append_num (w0 := wu.drewN nn) w.heap.size rfl (.tmp 232) (.tmp 240) 114 167 .u64 8 rfl Tryz.underlying114 info167 (by decide) u0 ws Y rfl rfl HOWN2.out (Below.refl _ _) HZU.out HLW.out ?_; intro v2 w2 hv2 hb2 hgr hat; clear hgr hat; have HV2 : Aside0 (Nt w2 w.heap.size v2 (ws ++ [Y])) := Aside0.mk hv2; have HB2 := Aside0.mk hb2; clear hv2 hb2)
          refine (reverse_nt w.heap.size _ (ws ++ [Y]) w2 (by simp) (by have := HIN.out.len; have := HROOM.out; simp; omega) (Nat.le_trans HZU.out HB2.out.size) HV2.out).mono ?_
          rintro e w3 ⟨rfl, hv3, hb3⟩
          have HV3 := Aside0.mk hv3
          have HB3 := Aside0.mk hb3
          clear hv3 hb3
          go_wp2_with fail
          refine (norm_nt w.heap.size _ _ w3 (rev_ne (by simp)) (rev_Dg HY2.out) HV3.out).mono ?_
          rintro e w' ⟨v4, rfl, hv4, rfl⟩
          rw [HY3.out] at hv4
          have HV4 := Aside0.mk hv4
          clear hv4
          go_wp2_with fail
          rw [HSH.out]
          refine (rsh_nt0 w.heap.size _ (m * 4) v4 w3 (HT.out.pv_len m (by have := HM.out; exact pow_le16 (by omega))) HML.out.1 HML.out.2 (Nat.le_trans (Nat.le_trans HZU.out HB2.out.size) HB3.out.size) HV4.out).mono ?_
          rintro e w4 ⟨v5, rfl, hv5, hb5⟩
          rw [div_back16] at hv5
          have HV5 := Aside0.mk hv5
          have HB5 := Aside0.mk ((HB2.out.trans HB3.out).trans hb5)
          clear hv5 hb5
          go_wp2_with fail
          refine bodyPost_ret (results_tmp4 rfl _ _ _) rfl ?_
          exact ⟨_, rfl, HV5.out, by have h := Rd_below (blk_drewN HRU.out nn) HB5.out HGW.out; rw [HPE.out] at h; exact h, only_base (only_drewN HIU.out.only nn) HB5.out (Nat.le_refl _)⟩
end Go.Proofs.YtgpoplfgngiilaaGreatDoor

namespace Go.Proofs.YtgpoplfgngiilaaGreatDoor
open Go.RowKit Go.Proofs.YtgpoplfgngiilaaGreatDoorW.PrintWords PAll Pl

set_option maxHeartbeats 4000000 in
set_option maxRecDepth 100000 in
theorem scan_py (q g : Nat) (s u : ByteArray) (w : World) (hT : TxP q s u) (h0 : bt s 0 = 48) (h1 : bt s 1 = 88) (pa : Addr) (hg : 1 < g) (hgw : g < w.heap.size) (hr : RdAt w g s 0 (-1)) (hev : Eof w pa) :
    Calls Tryz.prog 109 #[.slice none 0 0, .iface 133 (.pointer (some ⟨g, 0, none⟩)), .int .i64 0, .bool true] w (SqOk q (pv 16 u u.size) u.size g s w) := by
  have hssz : s.size ≤ 100000 := hT.size
  have hroom := hT.room
  have hup := hT.pos
  have hqle := hT.qle
  have HROOM := Aside0.mk hroom
  have H := Aside0.mk (read_some g s 0 (-1) w hssz (by omega) hr)
  have b1 : (bt s 0 == 48) = true := by simpa using h0
  clear h0
  have HT := Aside0.mk hT
  have HEV := Aside0.mk hev
  have HGW := Aside0.mk hgw
  clear hr hT hev hroom
  have q1 : (bt s 1 == 98) = false := by rw [h1]; rfl
  have q2 : (bt s 1 == 66) = false := by rw [h1]; rfl
  have q3 : (bt s 1 == 111) = false := by rw [h1]; rfl
  have q4 : (bt s 1 == 79) = false := by rw [h1]; rfl
  have HQ := Aside0.mk h1
  clear h1
  go_enter Tryz.func109, Tryz.ntmps109
  go_wp2_with fail
  refine H.out.mono ?_
  rintro e w1 ⟨rfl, hr, ho⟩
  have H2 := Aside0.mk (read_some g s 1 (-1) w1 hssz (by have := HROOM.out; omega) hr)
  have HO1 := Aside0.mk ho
  clear hr ho
  go_wp2_with fail
  refine H2.out.mono ?_
  rintro e w2 ⟨rfl, hr, ho⟩
  rw [show bt s (1 : Nat) = bt s 1 from rfl, HQ.out]
  have H3 := Aside0.mk (read_some g s 2 (-1) w2 hssz (by have := HROOM.out; omega) hr)
  have HO2 := Aside0.mk (only_trans HO1.out ho)
  clear hr ho
  go_wp2_with fail
  refine H3.out.mono ?_
  rintro e w3 ⟨rfl, hr, ho⟩
  have ho := only_trans HO2.out ho
  have HR := Aside0.mk hr
  have HI0 := Aside0.mk (ScQ.start (u := u) (g := g) (base := w.heap.size) (w := w) (W := w3) ho)
  have HE1 := Aside0.mk (HEV.out.only ho hg)
  clear hr ho
  go_wp2_with fail
  go_loopg [0, 3, 10, 11, 13, 14, 15, 20, 21, 22] (u.size + 5) (fun kq z f c er pr iv ch di i dp W => ∃ (k p Z j d : Nat) (P D C DP : Int) (fb : Bool) (ws : List Int), kq + p = u.size + 7 ∧ f = .bool fb ∧ c = .int .i64 k ∧ pr = .int .i32 P ∧ (P == 95) = false ∧ iv = .bool false ∧ di = .int .u64 D ∧ Aside0 (D = (d : Nat)) ∧ i = .int .i64 j ∧ dp = .int .i64 DP ∧ (fb = true ∨ DP = q) ∧ j < 16 ∧ er = .nilIface ∧ ch = .int .u8 C ∧ Aside0 (C = bt s (p : Nat)) ∧ StP q u.size fb k p ∧ ScQ g u w.heap.size w W k Z j d ws z ∧ RdAt W g s (p + 1 : Nat) (-1))
  case atStart => exact ⟨0, 2, 0, 0, 0, 48, 0, _, -1, true, [], by omega, rfl, rfl, rfl, rfl, rfl, rfl, ⟨rfl⟩, rfl, rfl, .inl rfl, by omega, rfl, rfl, ⟨rfl⟩, .inl ⟨rfl, Nat.zero_le _, rfl⟩, HI0.out, HR.out⟩
  case round =>
    obtain ⟨k, p, Z, j, d, P, D, C, DP, fb, ws, hkq, rfl, rfl, rfl, hP, rfl, rfl, HDD, rfl, rfl, hDP, hj, rfl, rfl, hC, hst, hin, hrd⟩ := hrel
    have hple := StP.le hqle hst
    have HPP : Aside0 (p < s.size) := ⟨by have := HROOM.out; omega⟩
    have HIN := Aside0.mk hin
    have HKQ := Aside0.mk hkq
    have HRD := Aside0.mk hrd
    have hcs := hst.cases HT.out
    have hc2 : (k : Int) ≤ 100000 := by have := HROOM.out; omega
    have hgp := hin.gp.lt
    have hdb : D * 16 + 16 ≤ 18446744073709551616 := by rw [HDD.out]; exact gp_room16 hj hgp
    have hD0 : 0 ≤ D := by rw [HDD.out]; exact Int.natCast_nonneg _
    have hwz := hin.only.size
    have HOWN : Aside0 (wr.ownsRow w.heap.size 167 1 u0 ws.length (nums .u64 ws)) := Aside0.mk hin.own
    have HLW : Aside0 ((ws.length + 1) * 8 ≤ 140737488355328) := ⟨by have := hin.len; have := hin.k_le; have := HROOM.out; omega⟩
    have HEW := Aside0.mk (HEV.out.only hin.only hg)
    have HWZ := Aside0.mk hwz
    have HPLE := Aside0.mk hple
    clear hkq hgp hwz hin hrd hst hple
    rcases hcs with ⟨hlt, hck, hst2⟩ | ⟨rfl, rfl, hck, hst2⟩ | ⟨rfl, rfl, hpe, hck⟩
    · have hfk := HT.out.fig k hlt
      rw [← hck, ← hC.out] at hfk
      obtain ⟨hc95, hrg, hdb2⟩ := hfk
      have HCU : Aside0 (C = bt u k) := ⟨hC.out.trans hck⟩
      have HST2 := Aside0.mk hst2
      have HNX : Aside0 (p + 1 < s.size) := ⟨by have := hst2.le hqle; have := HROOM.out; omega⟩
      have HC95 := Aside0.mk hc95
      have HLT := Aside0.mk hlt
      have n95 : (C == 95) = false := by simpa using hc95
      have n46 : (C == 46) = false := by simp only [beq_eq_false_iff_ne]; omega
      have HDPQ := Aside0.mk hDP
      clear hc95 hck hst2 hC hlt hDP
      rcases hrg with ⟨hd1, hd2⟩ | ⟨hd1, hd2⟩ | ⟨hd1, hd2⟩
      · have hdv : dv C = C - 48 := if_pos hd2
        rw [hdv] at hdb2
        obtain ⟨x, hx⟩ : ∃ x : Nat, (C - 48).toNat = x := ⟨_, rfl⟩
        have HXV : Aside0 ((dv (bt u k)).toNat = x) := ⟨by rw [← HCU.out, hdv]; exact hx⟩
        have HXB : Aside0 (x < 16) := ⟨by omega⟩
        have HEQ : Aside0 (D * 16 + (C - 48) = ((d * 16 + x : Nat) : Int)) := ⟨by rw [HDD.out]; push_cast; omega⟩
        have H95 : Aside0 (bt u k ≠ 95) := ⟨by rw [← HCU.out]; exact HC95.out⟩
        have hcb : C - 48 < 16 := by omega
        clear hx hdv hdb2 HC95
        by_cases hfull : j + 1 = 16
        · have bfull : ((j : Int) + 1 == 16) = true := by simp only [beq_iff_eq]; omega
          have HFL := Aside0.mk hfull
          clear hfull
          go_wp2_with ((with_reducible refine gate_builtin (b := .append) (xs := #[.tmp 193, .tmp 195]) rfl ?_); at_builtin; refine print_append_num (w0 := wr) w.heap.size rfl (.tmp 193) (.tmp 195) 114 167 .u64 8 rfl Tryz.underlying114 info167 (by decide) u0 ws (D * 16 + (C - 48)) rfl rfl HOWN.out (Below.refl _ _) HWZ.out HLW.out ?_; intro v2 w2 hv2 hb2 hgr hat; clear hgr hat; have HV2 := Aside0.mk hv2; have HB2 := Aside0.mk hb2; have HRD2 := Aside0.mk (Rd_below HRD.out hb2 HGW.out); have HEW2 := Aside0.mk (Eof.below HEW.out hb2 (by have := HGW.out; omega)); clear hv2 hb2)
          refine (sq_next g s p w2 hssz HNX.out HRD2.out).mono ?_
          rintro e w3 ⟨rfl, hh2, ho2⟩
          have HH2 := Aside0.mk hh2
          have HIN2 := Aside0.mk (HIN.out.full HLT.out x HXV.out HXB.out H95.out HFL.out _ HEQ.out HV2.out HB2.out ho2 HGW.out (Nat.le_refl _))
          clear hh2 ho2
          go_wp2_with fail
          obtain ⟨q2, rfl⟩ : ∃ q, gk = q + 1 := ⟨gk - 1, by have := HKQ.out; have := HPLE.out; omega⟩
          go_roundg q2
          case rel => exact ⟨k + 1, p + 1, Z * 16 ^ 16 + (d * 16 + x), 0, 0, 48, 0, _, _, _, _, by have := HKQ.out; omega, rfl, by go_num, rfl, rfl, rfl, rfl, ⟨rfl⟩, rfl, rfl, HDPQ.out, by omega, rfl, rfl, ⟨rfl⟩, HST2.out, HIN2.out, HH2.out⟩
          case measure => omega
        · have bfull : ((j : Int) + 1 == 16) = false := by simp only [beq_eq_false_iff_ne]; omega
          go_wp2_with fail
          refine (sq_next g s p wr hssz HNX.out HRD.out).mono ?_
          rintro e w3 ⟨rfl, hh2, ho2⟩
          have HH2 := Aside0.mk hh2
          have HIN2 := Aside0.mk (HIN.out.dig HLT.out x HXV.out HXB.out H95.out ho2 HGW.out)
          clear hh2 ho2
          go_wp2_with fail
          obtain ⟨q2, rfl⟩ : ∃ q, gk = q + 1 := ⟨gk - 1, by have := HKQ.out; have := HPLE.out; omega⟩
          go_roundg q2
          case rel => exact ⟨k + 1, p + 1, Z, j + 1, d * 16 + x, 48, _, _, _, _, _, by have := HKQ.out; omega, rfl, by go_num, rfl, rfl, rfl, rfl, HEQ, by go_num, rfl, HDPQ.out, by omega, rfl, rfl, ⟨rfl⟩, HST2.out, HIN2.out, HH2.out⟩
          case measure => omega
      · have hdv : dv C = C - 55 := (if_neg (by omega)).trans (if_pos hd2)
        rw [hdv] at hdb2
        obtain ⟨x, hx⟩ : ∃ x : Nat, (C - 55).toNat = x := ⟨_, rfl⟩
        have HXV : Aside0 ((dv (bt u k)).toNat = x) := ⟨by rw [← HCU.out, hdv]; exact hx⟩
        have HXB : Aside0 (x < 16) := ⟨by omega⟩
        have HEQ : Aside0 (D * 16 + (C - 65 + 10) = ((d * 16 + x : Nat) : Int)) := ⟨by rw [HDD.out]; push_cast; omega⟩
        have H95 : Aside0 (bt u k ≠ 95) := ⟨by rw [← HCU.out]; exact HC95.out⟩
        have hcb : C - 65 + 10 < 16 := by omega
        clear hx hdv hdb2 HC95
        by_cases hfull : j + 1 = 16
        · have bfull : ((j : Int) + 1 == 16) = true := by simp only [beq_iff_eq]; omega
          have HFL := Aside0.mk hfull
          clear hfull
          go_wp2_with ((with_reducible refine gate_builtin (b := .append) (xs := #[.tmp 193, .tmp 195]) rfl ?_); at_builtin; refine print_append_num (w0 := wr) w.heap.size rfl (.tmp 193) (.tmp 195) 114 167 .u64 8 rfl Tryz.underlying114 info167 (by decide) u0 ws (D * 16 + (C - 65 + 10)) rfl rfl HOWN.out (Below.refl _ _) HWZ.out HLW.out ?_; intro v2 w2 hv2 hb2 hgr hat; clear hgr hat; have HV2 := Aside0.mk hv2; have HB2 := Aside0.mk hb2; have HRD2 := Aside0.mk (Rd_below HRD.out hb2 HGW.out); have HEW2 := Aside0.mk (Eof.below HEW.out hb2 (by have := HGW.out; omega)); clear hv2 hb2)
          refine (sq_next g s p w2 hssz HNX.out HRD2.out).mono ?_
          rintro e w3 ⟨rfl, hh2, ho2⟩
          have HH2 := Aside0.mk hh2
          have HIN2 := Aside0.mk (HIN.out.full HLT.out x HXV.out HXB.out H95.out HFL.out _ HEQ.out HV2.out HB2.out ho2 HGW.out (Nat.le_refl _))
          clear hh2 ho2
          go_wp2_with fail
          obtain ⟨q2, rfl⟩ : ∃ q, gk = q + 1 := ⟨gk - 1, by have := HKQ.out; have := HPLE.out; omega⟩
          go_roundg q2
          case rel => exact ⟨k + 1, p + 1, Z * 16 ^ 16 + (d * 16 + x), 0, 0, 48, 0, _, _, _, _, by have := HKQ.out; omega, rfl, by go_num, rfl, rfl, rfl, rfl, ⟨rfl⟩, rfl, rfl, HDPQ.out, by omega, rfl, rfl, ⟨rfl⟩, HST2.out, HIN2.out, HH2.out⟩
          case measure => omega
        · have bfull : ((j : Int) + 1 == 16) = false := by simp only [beq_eq_false_iff_ne]; omega
          go_wp2_with fail
          refine (sq_next g s p wr hssz HNX.out HRD.out).mono ?_
          rintro e w3 ⟨rfl, hh2, ho2⟩
          have HH2 := Aside0.mk hh2
          have HIN2 := Aside0.mk (HIN.out.dig HLT.out x HXV.out HXB.out H95.out ho2 HGW.out)
          clear hh2 ho2
          go_wp2_with fail
          obtain ⟨q2, rfl⟩ : ∃ q, gk = q + 1 := ⟨gk - 1, by have := HKQ.out; have := HPLE.out; omega⟩
          go_roundg q2
          case rel => exact ⟨k + 1, p + 1, Z, j + 1, d * 16 + x, 48, _, _, _, _, _, by have := HKQ.out; omega, rfl, by go_num, rfl, rfl, rfl, rfl, HEQ, by go_num, rfl, HDPQ.out, by omega, rfl, rfl, ⟨rfl⟩, HST2.out, HIN2.out, HH2.out⟩
          case measure => omega
      · have hdv : dv C = C - 87 := (if_neg (by omega)).trans (if_neg (by omega))
        rw [hdv] at hdb2
        obtain ⟨x, hx⟩ : ∃ x : Nat, (C - 87).toNat = x := ⟨_, rfl⟩
        have HXV : Aside0 ((dv (bt u k)).toNat = x) := ⟨by rw [← HCU.out, hdv]; exact hx⟩
        have HXB : Aside0 (x < 16) := ⟨by omega⟩
        have HEQ : Aside0 (D * 16 + (C - 97 + 10) = ((d * 16 + x : Nat) : Int)) := ⟨by rw [HDD.out]; push_cast; omega⟩
        have H95 : Aside0 (bt u k ≠ 95) := ⟨by rw [← HCU.out]; exact HC95.out⟩
        have hcb : C - 97 + 10 < 16 := by omega
        clear hx hdv hdb2 HC95
        by_cases hfull : j + 1 = 16
        · have bfull : ((j : Int) + 1 == 16) = true := by simp only [beq_iff_eq]; omega
          have HFL := Aside0.mk hfull
          clear hfull
          go_wp2_with ((with_reducible refine gate_builtin (b := .append) (xs := #[.tmp 193, .tmp 195]) rfl ?_); at_builtin; refine print_append_num (w0 := wr) w.heap.size rfl (.tmp 193) (.tmp 195) 114 167 .u64 8 rfl Tryz.underlying114 info167 (by decide) u0 ws (D * 16 + (C - 97 + 10)) rfl rfl HOWN.out (Below.refl _ _) HWZ.out HLW.out ?_; intro v2 w2 hv2 hb2 hgr hat; clear hgr hat; have HV2 := Aside0.mk hv2; have HB2 := Aside0.mk hb2; have HRD2 := Aside0.mk (Rd_below HRD.out hb2 HGW.out); have HEW2 := Aside0.mk (Eof.below HEW.out hb2 (by have := HGW.out; omega)); clear hv2 hb2)
          refine (sq_next g s p w2 hssz HNX.out HRD2.out).mono ?_
          rintro e w3 ⟨rfl, hh2, ho2⟩
          have HH2 := Aside0.mk hh2
          have HIN2 := Aside0.mk (HIN.out.full HLT.out x HXV.out HXB.out H95.out HFL.out _ HEQ.out HV2.out HB2.out ho2 HGW.out (Nat.le_refl _))
          clear hh2 ho2
          go_wp2_with fail
          obtain ⟨q2, rfl⟩ : ∃ q, gk = q + 1 := ⟨gk - 1, by have := HKQ.out; have := HPLE.out; omega⟩
          go_roundg q2
          case rel => exact ⟨k + 1, p + 1, Z * 16 ^ 16 + (d * 16 + x), 0, 0, 48, 0, _, _, _, _, by have := HKQ.out; omega, rfl, by go_num, rfl, rfl, rfl, rfl, ⟨rfl⟩, rfl, rfl, HDPQ.out, by omega, rfl, rfl, ⟨rfl⟩, HST2.out, HIN2.out, HH2.out⟩
          case measure => omega
        · have bfull : ((j : Int) + 1 == 16) = false := by simp only [beq_eq_false_iff_ne]; omega
          go_wp2_with fail
          refine (sq_next g s p wr hssz HNX.out HRD.out).mono ?_
          rintro e w3 ⟨rfl, hh2, ho2⟩
          have HH2 := Aside0.mk hh2
          have HIN2 := Aside0.mk (HIN.out.dig HLT.out x HXV.out HXB.out H95.out ho2 HGW.out)
          clear hh2 ho2
          go_wp2_with fail
          obtain ⟨q2, rfl⟩ : ∃ q, gk = q + 1 := ⟨gk - 1, by have := HKQ.out; have := HPLE.out; omega⟩
          go_roundg q2
          case rel => exact ⟨k + 1, p + 1, Z, j + 1, d * 16 + x, 48, _, _, _, _, _, by have := HKQ.out; omega, rfl, by go_num, rfl, rfl, rfl, rfl, HEQ, by go_num, rfl, HDPQ.out, by omega, rfl, rfl, ⟨rfl⟩, HST2.out, HIN2.out, HH2.out⟩
          case measure => omega
    · obtain rfl : C = 46 := hC.out.trans hck
      have HST2 := Aside0.mk hst2
      have HNX : Aside0 (p + 1 < s.size) := ⟨by have := hst2.le hqle; have := HROOM.out; omega⟩
      clear hck hst2 hC hDP
      go_wp2_with fail
      refine (sq_next g s p wr hssz HNX.out HRD.out).mono ?_
      rintro e w3 ⟨rfl, hh2, ho2⟩
      have HH2 := Aside0.mk hh2
      have HIN2 := Aside0.mk (HIN.out.move ho2 HGW.out)
      clear hh2 ho2
      go_wp2_with fail
      obtain ⟨q2, rfl⟩ : ∃ q, gk = q + 1 := ⟨gk - 1, by have := HKQ.out; have := HPLE.out; omega⟩
      go_roundg q2
      case rel => exact ⟨k, p + 1, Z, j, d, 46, _, _, _, _, _, by have := HKQ.out; omega, rfl, rfl, rfl, rfl, rfl, rfl, HDD, rfl, rfl, .inr rfl, by omega, rfl, rfl, ⟨rfl⟩, HST2.out, HIN2.out, HH2.out⟩
      case measure => omega
    · obtain rfl : DP = q := by simpa using hDP
      rw [← hC.out] at hck
      have n46 : (C == 46) = false := by simp only [beq_eq_false_iff_ne]; omega
      have n95 : (C == 95) = false := by simp only [beq_eq_false_iff_ne]; omega
      have bc : ((u.size : Int) == 0) = false := by simp only [beq_eq_false_iff_ne]; omega
      have hq0 : (0 : Int) ≤ q := by omega
      have HUN := Aside0.mk (unread g s p (-1) wr (by have := HROOM.out; omega) HRD.out)
      have hev : wr.cell? ⟨1, 0, none⟩ = some (.iface 279 (.pointer (some pa))) := HEW.out
      have heq := fun W => run_eql_iface_nil_left (P := Tryz.prog) (w := W) 279 (.pointer (some pa)) Tryz.underlying85
      have HPE := Aside0.mk hpe
      clear hC hDP hpe
      by_cases hj0 : j = 0
      · subst hj0
        obtain ⟨hne, hve⟩ := HIN.out.end0 hup
        have HNE := Aside0.mk hne
        have HVE := Aside0.mk hve
        clear hne hve
        rcases hck with rfl | rfl
        all_goals
          go_wp2_with fail
          refine HUN.out.mono ?_
          rintro e wu ⟨rfl, hru, hou⟩
          have HRU := Aside0.mk hru
          have HIU := Aside0.mk (HIN.out.move hou HGW.out)
          have HZU := Aside0.mk (Nat.le_trans HWZ.out hou.size)
          have hevu : wu.cell? ⟨1, 0, none⟩ = some (.iface 279 (.pointer (some pa))) := HEW.out.only hou hg
          clear hru hou
          go_wp2_with fail
          refine (reverse_nt w.heap.size _ ws wu HNE.out (by have := HIN.out.len; have := HROOM.out; omega) HZU.out HIU.out.own).mono ?_
          rintro e w2 ⟨rfl, hv2, hb2⟩
          have HV2 := Aside0.mk hv2
          have HB2 := Aside0.mk hb2
          clear hv2 hb2
          go_wp2_with fail
          refine (norm_nt w.heap.size _ _ w2 (rev_ne HNE.out) (rev_Dg HIN.out.dg) HV2.out).mono ?_
          rintro e w' ⟨v3, rfl, hv3, rfl⟩
          rw [HVE.out] at hv3
          have HV3 := Aside0.mk hv3
          clear hv3
          go_wp2_with fail
          refine bodyPost_ret (results_tmp4 rfl _ _ _) rfl ?_
          exact ⟨_, rfl, HV3.out, by have h := Rd_below HRU.out HB2.out HGW.out; rw [HPE.out] at h; exact h, only_base HIU.out.only HB2.out (Nat.le_refl _)⟩
      · have hji : (0 : Int) < j := by omega
        have hjn : (j : Int) < 16 := by omega
        obtain ⟨m, hm⟩ : ∃ m : Nat, m = 16 - j := ⟨_, rfl⟩
        have hmi : 16 - (j : Int) = m := by omega
        have hpw : bigall_pow.f 8 16 (16 - (j : Int)) = some ((16 ^ m : Nat) : Int) := by rw [hmi]; exact (pow_16 ⟨m, by omega⟩).trans (congrArg some (by push_cast; rfl))
        obtain ⟨Y, hY⟩ : ∃ Y : Int, Y = ((d * 16 ^ m : Nat) : Int) := ⟨_, rfl⟩
        obtain ⟨hy1, hy2, hy3⟩ := HIN.out.endj hj Y (by rw [← hm]; exact hY)
        rw [← hm] at hy1 hy3
        have HYW : Aside0 (IntKind.u64.wrap (D * ((16 ^ m : Nat) : Int)) = Y) := ⟨by rw [hY, HDD.out, ← Int.natCast_mul]; exact wu64 (Int.natCast_nonneg _) (by omega)⟩
        have HSH : Aside0 ((16 - (j : Int)) * 4 = ((m * 4 : Nat) : Int)) := ⟨by omega⟩
        have hml : 0 < m * 4 ∧ m * 4 < 64 := by omega
        have HML := Aside0.mk hml
        have HPW := Aside0.mk hpw
        have HMI := Aside0.mk hmi
        have HM := Aside0.mk hm
        have HY2 := Lib.hid hy2
        have HY3 := Aside0.mk hy3
        clear hpw hmi hm hy1 hy2 hy3 hY hml
        rcases hck with rfl | rfl
        all_goals
          go_wp2_with fail
          refine HUN.out.mono ?_
          rintro e wu ⟨rfl, hru, hou⟩
          have HRU := Aside0.mk hru
          have HIU := Aside0.mk (HIN.out.move hou HGW.out)
          have HZU := Aside0.mk (Nat.le_trans HWZ.out hou.size)
          have hevu : wu.cell? ⟨1, 0, none⟩ = some (.iface 279 (.pointer (some pa))) := HEW.out.only hou hg
          clear hru hou
          go_wp2_with fail
          refine (bigall_pow.calls 8 16 _ _ wu HPW.out).mono ?_
          rintro e w2 ⟨rfl, ⟨nn, rfl⟩⟩
          obtain ⟨q5, hq5⟩ : ∃ q : Int, q = ((16 ^ m : Nat) : Int) := ⟨_, rfl⟩
          rw [← hq5] at HYW ⊢
          clear hq5
          have HOWN2 : Aside0 ((wu.drewN nn).ownsRow w.heap.size 167 1 u0 ws.length (nums .u64 ws)) := Aside0.mk (HIU.out.drewN nn).own
          go_wp2_with ((with_reducible refine gate_builtin (b := .append) (xs := #[.tmp 232, .tmp 240]) rfl ?_); at_builtin; rw [HYW.out]; refine print_append_num (w0 := wu.drewN nn) w.heap.size rfl (.tmp 232) (.tmp 240) 114 167 .u64 8 rfl Tryz.underlying114 info167 (by decide) u0 ws Y rfl rfl HOWN2.out (Below.refl _ _) HZU.out HLW.out ?_; intro v2 w2 hv2 hb2 hgr hat; clear hgr hat; have HV2 : Aside0 (Nt w2 w.heap.size v2 (ws ++ [Y])) := Aside0.mk hv2; have HB2 := Aside0.mk hb2; clear hv2 hb2)
          refine (reverse_nt w.heap.size _ (ws ++ [Y]) w2 (by simp) (by have := HIN.out.len; have := HROOM.out; simp; omega) (Nat.le_trans HZU.out HB2.out.size) HV2.out).mono ?_
          rintro e w3 ⟨rfl, hv3, hb3⟩
          have HV3 := Aside0.mk hv3
          have HB3 := Aside0.mk hb3
          clear hv3 hb3
          go_wp2_with fail
          refine (norm_nt w.heap.size _ _ w3 (rev_ne (by simp)) (rev_Dg HY2.out) HV3.out).mono ?_
          rintro e w' ⟨v4, rfl, hv4, rfl⟩
          rw [HY3.out] at hv4
          have HV4 := Aside0.mk hv4
          clear hv4
          go_wp2_with fail
          rw [HSH.out]
          refine (rsh_nt0 w.heap.size _ (m * 4) v4 w3 (HT.out.pv_len m (by have := HM.out; exact pow_le16 (by omega))) HML.out.1 HML.out.2 (Nat.le_trans (Nat.le_trans HZU.out HB2.out.size) HB3.out.size) HV4.out).mono ?_
          rintro e w4 ⟨v5, rfl, hv5, hb5⟩
          rw [div_back16] at hv5
          have HV5 := Aside0.mk hv5
          have HB5 := Aside0.mk ((HB2.out.trans HB3.out).trans hb5)
          clear hv5 hb5
          go_wp2_with fail
          refine bodyPost_ret (results_tmp4 rfl _ _ _) rfl ?_
          exact ⟨_, rfl, HV5.out, by have h := Rd_below (blk_drewN HRU.out nn) HB5.out HGW.out; rw [HPE.out] at h; exact h, only_base (only_drewN HIU.out.only nn) HB5.out (Nat.le_refl _)⟩
end Go.Proofs.YtgpoplfgngiilaaGreatDoor
