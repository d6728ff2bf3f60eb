/- divWW: the quotient and the rest of two words by a word, by its reciprocal. divWVW: a number by a word, word by word from the top, in its own room or another. What internal/strconv's lower and ParseUint answer at base 0 and 64 bits, at figures with a prefix or none, underscores between them. (wip/gen/pu.py wrote it.) What nat.scan holds while it runs: figures gathered in groups; a text of figures with underscores; io.EOF. nat.scan at the bases that pack into words: what holds while it runs; Reverse, norm, rsh over a number of the call's own. Int.SetString at base 0, out of what nat.scan answers. nat's set into a room of its own; setWord; divW; div by one word. setWord at nil; divW into a room of its own and in place; nat's div by one word. -/
import Derived.Test.YtgpoplfgngiilaaGreatDoorZ06
import Derived.Test.YtgpoplfgngiilaaGreatDoorZ07
import Derived.Test.YtgpoplfgngiilaaGreatDoorZ08
import Derived.LaidEql
import Derived.Laws.CopyOwn
import Derived.Lib.SlBuf
import Derived.Defers
set_option linter.unusedVariables false
set_option linter.unusedSimpArgs false
namespace Go.Proofs.YtgpoplfgngiilaaGreatDoor
open Go.RowKit Go.Proofs.YtgpoplfgngiilaaGreatDoorW.PrintWords PAll Pl Dv

theorem or_up0 (X a P s : Nat) (hP : P = 2 ^ s) (hs : s < 64) (hX : X % P = 0) (h1 : X < 18446744073709551616) (h0 : a < P) : bits .or .u64 (X : Int) (a : Int) = ((X + a : Nat) : Int) := by
  have hp : 2 ^ s ≤ 2 ^ 63 := Nat.pow_le_pow_right (by omega) (by omega)
  rw [← hP] at hp
  have hPi : (2 : Int) ^ s = (P : Int) := by rw [hP]; push_cast; rfl
  have h := bits_join .u64 64 (by decide) (fun n a b => wu64 a (by omega)) s (X : Int) (a : Int) (by omega) (by rw [hPi]; omega) (by omega) (by omega) (by rw [hPi]; omega) (by omega)
  rw [h]
  omega
theorem or_up (x1 x0 s : Nat) (hs0 : 0 < s) (hs : s < 64) (h1 : x1 * 2 ^ s < 18446744073709551616) (h0 : x0 / 2 ^ (64 - s) < 2 ^ s) :
    bits .or .u64 (((x1 * 2 ^ s : Nat) : Int)) (((x0 / 2 ^ (64 - s) : Nat)) : Int) = ((x1 * 2 ^ s + x0 / 2 ^ (64 - s) : Nat) : Int) :=
  or_up0 _ _ (2 ^ s) s rfl hs (Nat.mul_mod_left _ _) h1 h0

theorem mul_w (a b : Nat) (ha : a < 18446744073709551616) (hb : b < 18446744073709551616) : (a * b / 18446744073709551616) < 18446744073709551616 ∧ (a * b % 18446744073709551616) < 18446744073709551616 := by
  have : a * b ≤ 18446744073709551615 * 18446744073709551615 := Nat.mul_le_mul (by omega) (by omega)
  omega

/-- What divWW answers. -/
def WwOk (x1 x0 y : Nat) (w : World) (e : Ending) (w' : World) : Prop := e = .returned (.tuple #[.int .u64 (((x1 * 18446744073709551616 + x0) / y : Nat) : Int), .int .u64 (((x1 * 18446744073709551616 + x0) % y : Nat) : Int)]) ∧ w = w'

set_option maxHeartbeats 4000000 in
set_option maxRecDepth 100000 in
theorem divWW_any (x1 x0 y m : Nat) (hy0 : 0 < y) (hy : y < 18446744073709551616) (h1 : x1 < y) (h0 : x0 < 18446744073709551616) (hR : RecOf y m) (w : World) :
    Calls Tryz.prog 259 #[.int .u64 x1, .int .u64 x0, .int .u64 y, .int .u64 m] w (WwOk x1 x0 y w) := by
  have HQB0 : Aside0 ((x1 * 18446744073709551616 + x0) / y < 18446744073709551616) := ⟨Nat.div_lt_of_lt_mul (by
    have : (x1 + 1) * 18446744073709551616 ≤ y * 18446744073709551616 := Nat.mul_le_mul_right _ h1
    rw [Nat.succ_mul] at this
    omega)⟩
  obtain ⟨s, hs, hs1, hs2, hn⟩ := nlz_any y hy0 hy
  obtain ⟨k, hM, hk⟩ := hR.2 s hs hs1 hs2
  have hm := hR.1
  obtain ⟨d, hd⟩ : ∃ d, d = y * 2 ^ s := ⟨_, rfl⟩
  obtain ⟨X1, hX1⟩ : ∃ X1, X1 = x1 * 2 ^ s + x0 / 2 ^ (64 - s) := ⟨_, rfl⟩
  obtain ⟨X0, hX0⟩ : ∃ X0, X0 = x0 * 2 ^ s % 18446744073709551616 := ⟨_, rfl⟩
  obtain ⟨g1, g2, g3, g4⟩ := ww_scale x1 x0 y s 18446744073709551616 rfl hs h1 h0 hs2
  have hor := fun h => or_up x1 x0 s h hs g3 g4
  rw [← hd] at hs1 hs2 hM hk g2
  rw [← hX1] at g2 hor
  have hX0l : X0 < 18446744073709551616 := by rw [hX0]; exact Nat.mod_lt _ (by omega)
  have hX1l : X1 < 18446744073709551616 := by omega
  obtain ⟨t1, ht1⟩ : ∃ t1, t1 = m * X1 / 18446744073709551616 := ⟨_, rfl⟩
  obtain ⟨t0, ht0⟩ : ∃ t0, t0 = m * X1 % 18446744073709551616 := ⟨_, rfl⟩
  obtain ⟨c, hc⟩ : ∃ c, c = (t0 + X0 + 0) / 18446744073709551616 := ⟨_, rfl⟩
  obtain ⟨q, hq⟩ : ∃ q, q = (t1 + X1 + c) % 18446744073709551616 := ⟨_, rfl⟩
  obtain ⟨d1, hd1⟩ : ∃ d1, d1 = d * q / 18446744073709551616 := ⟨_, rfl⟩
  obtain ⟨d0, hd0⟩ : ∃ d0, d0 = d * q % 18446744073709551616 := ⟨_, rfl⟩
  have hall := ww_all 18446744073709551616 x1 x0 y m k s d t1 t0 c q d1 d0 X1 X0 rfl hs h1 h0 hd hs2 (by omega) hM hk hX1 hX0 ht1 ht0 hc hq hd1 hd0
  have hwt := mul_w m X1 hm hX1l
  rw [← ht1, ← ht0] at hwt
  have hql : q < 18446744073709551616 := by rw [hq]; exact Nat.mod_lt _ (by omega)
  have hcl : c ≤ 1 := by rw [hc]; omega
  -- the calls
  obtain ⟨bz, hbz⟩ : ∃ bz, bz = (if X1 < d1 + (if X0 < d0 + 0 then 1 else 0 : Nat) then 1 else 0 : Nat) := ⟨_, rfl⟩
  have HN := Lib.hid hn
  have C1 := Lib.hid (fun W => (Tryz.bits_Mul m X1 hm hX1l W))
  have C2 := Lib.hid (fun W => addc_any t0 X0 0 (by omega) W)
  have C3 := Lib.hid (fun W => addc_any t1 X1 c hcl W)
  have C4 := Lib.hid (fun W => (Tryz.bits_Mul d q hs2 hql W))
  have C5 := Lib.hid (fun W => subb_any X0 d0 0 (by omega) W)
  obtain ⟨bo, hbo⟩ : ∃ bo, bo = (if X0 < d0 + 0 then 1 else 0 : Nat) := ⟨_, rfl⟩
  have hbl : bo ≤ 1 := by rw [hbo]; split <;> omega
  have C6 := Lib.hid (fun W => subb_any X1 d1 bo hbl W)
  rw [← ht1, ← ht0] at C1
  rw [← hc] at C2
  rw [← hq] at C3
  rw [← hd1, ← hd0] at C4
  rw [← hbo] at C5 hall hbz
  rw [← hbz] at C6
  obtain ⟨R, r0, r1, r2, -, k1, k2, k3⟩ := hall
  rw [r0] at C5
  rw [r1] at C6
  obtain ⟨ρ0, hρ0⟩ : ∃ ρ, ρ = R % 18446744073709551616 := ⟨_, rfl⟩
  obtain ⟨ρ1, hρ1⟩ : ∃ ρ, ρ = R / 18446744073709551616 := ⟨_, rfl⟩
  rw [← hρ0] at C5
  rw [← hρ1] at C6
  have HP0 := Aside0.mk hρ0
  have HP1 := Aside0.mk hρ1
  have HQL := Aside0.mk hql
  have HK := Aside0.mk (And.intro k1 (And.intro k2 k3))
  have HR2 := Aside0.mk r2
  have HD2 := Aside0.mk (And.intro hs1 hs2)
  have HOR := Lib.hid hor
  have HX0 := Aside0.mk hX0
  have HD := Aside0.mk hd
  have HG3 := Aside0.mk g3
  have HY := Aside0.mk hy
  have HS := Aside0.mk hs
  have HX1 := Aside0.mk hX1
  have HX0L := Aside0.mk h0
  have hsi : (s : Int) < 64 := by omega
  clear hn hM hk hd hX1 hX0 g1 g2 g3 g4 hor ht1 ht0 hc hq hd1 hd0 hwt hql hcl hm hX0l hX1l hbo hbl r0 r1 r2 k1 k2 k3 hρ0 hρ1 hbz hs1 hs2 hy0 hy h1 h0 hR hs
  have HQB : Aside0 ((x1 * 18446744073709551616 + x0) / y < 18446744073709551616) := HQB0
  rcases Nat.eq_zero_or_pos s with hs0 | hs0
  · have b1 : ((s : Int) != 0) = false := by simp; omega
    have hx1 := HX1.out
    have hx0 := HX0.out
    have hd := HD.out
    rw [hs0, Nat.pow_zero, Nat.mul_one] at hx1 hx0 hd
    rw [Nat.mod_eq_of_lt HX0L.out] at hx0
    rw [Nat.sub_zero, Nat.div_eq_of_lt HX0L.out, Nat.add_zero] at hx1
    subst hx1 hx0 hd hs0
    go_enter Tryz.func259, Tryz.ntmps259
    go_wp2_with (first | (go_at_call 160; refine (HN.out _).mono ?_; rintro e w' ⟨rfl, rfl⟩))
    refine (C1.out _).mono ?_
    rintro e w' ⟨rfl, rfl⟩
    go_wp2_with fail
    refine (C2.out _).mono ?_
    rintro e w' ⟨rfl, rfl⟩
    go_wp2_with fail
    refine (C3.out _).mono ?_
    rintro e w' ⟨rfl, rfl⟩
    go_wp2_with fail
    refine (C4.out _).mono ?_
    rintro e w' ⟨rfl, rfl⟩
    go_wp2_with fail
    refine (C5.out _).mono ?_
    rintro e w' ⟨rfl, rfl⟩
    go_wp2_with fail
    refine (C6.out _).mono ?_
    rintro e w' ⟨rfl, rfl⟩
    clear C1 C2 C3 C4 C5 C6 HN HOR
    rcases Nat.lt_or_ge R 18446744073709551616 with hRB | hRB
    · rw [HP1.out.trans (Nat.div_eq_of_lt hRB), HP0.out.trans (Nat.mod_eq_of_lt hRB)]
      by_cases hc : d ≤ R
      · skip
        obtain ⟨f1, f2⟩ := HK.out.2.1 hc (by have := HD2.out; omega)
        have F := Aside0.mk (And.intro f1 f2)
        have w1 : (q : Int) ≤ 18446744073709551614 := by have := HQB.out; omega
        clear f1 f2
        go_wp2_with fail
        refine bodyPost_ret (results_tmp2 rfl _ _ _) rfl ?_
        obtain ⟨f1, f2⟩ := F.out
        rw [WwOk, f1, f2]
        exact ⟨word_eqd (by first | rfl | (push_cast; omega)) (by have e : ((R - d : Nat) : Int) = (R : Int) - d := (by omega); rw [← e]; first | rfl | (simp; done) | (push_cast; rfl)), rfl⟩
      · skip
        have F := Aside0.mk (HK.out.1 (by omega))
        go_wp2_with fail
        refine bodyPost_ret (results_tmp2 rfl _ _ _) rfl ?_
        obtain ⟨f1, f2⟩ := F.out
        rw [WwOk, f1, f2]
        exact ⟨word_eqd (by first | rfl | (push_cast; omega)) (by first | rfl | (simp; done) | (push_cast; rfl)), rfl⟩
    · rw [show ρ1 = 1 by have := HP1.out; have := HR2.out; have := HD2.out; omega]
      have e2 : IntKind.u64.wrap ((ρ0 : Int) - d) = ((R - d : Nat) : Int) := by
        have h0 := HP0.out
        have h1 := HR2.out
        have h2 := HD2.out
        simp only [IntKind.wrap, IntKind.bits, IntKind.signed]
        simp
        omega
      obtain ⟨T, hT⟩ : ∃ T, T = R - d := ⟨_, rfl⟩
      rw [← hT] at e2
      have HT := Aside0.mk hT
      by_cases hc : d ≤ T
      · skip
        obtain ⟨f1, f2⟩ := HK.out.2.2 (by omega)
        have F := Aside0.mk (And.intro f1 f2)
        have hR3 : R < 3 * d := by have := HR2.out; have := HD2.out; omega
        have w1 : (q : Int) ≤ 18446744073709551613 := by have := HQB.out; omega
        have w2 : (T : Int) ≤ 18446744073709551615 := by have := HR2.out; omega
        have w3 : R - 2 * d = T - d := by omega
        rw [w3] at F
        clear f1 f2 hT w3 hR3
        go_wp2_with fail
        go_wp2_with fail
        refine bodyPost_ret (results_tmp2 rfl _ _ _) rfl ?_
        obtain ⟨f1, f2⟩ := F.out
        rw [WwOk, f1, f2]
        exact ⟨word_eqd (by first | rfl | (push_cast; omega)) (by have e : ((T - d : Nat) : Int) = (T : Int) - d := (by omega); rw [← e]; first | rfl | (simp; done) | (push_cast; rfl)), rfl⟩
      · have F := Aside0.mk (HK.out.2.1 (by have := HD2.out; omega) (by omega))
        have w1 : (q : Int) ≤ 18446744073709551614 := by have := F.out.1; have := HQB.out; omega
        rw [← hT] at F
        clear hT
        go_wp2_with fail
        refine bodyPost_ret (results_tmp2 rfl _ _ _) rfl ?_
        obtain ⟨f1, f2⟩ := F.out
        rw [WwOk, f1, f2]
        exact ⟨word_eqd (by first | rfl | (push_cast; omega)) (by first | rfl | (simp; done) | (push_cast; rfl)), rfl⟩
  · have b1 : ((s : Int) != 0) = true := by simp; omega
    have E1 : Aside0 (bits .or .u64 (IntKind.u64.wrap ((x1 : Int) * 2 ^ s)) ((x0 : Int) / 2 ^ (64 - s)) = (X1 : Int)) := ⟨by
      have h := HOR.out hs0
      rw [← h, show (x1 : Int) * 2 ^ s = ((x1 * 2 ^ s : Nat) : Int) by push_cast; rfl, wu64 (by omega) (by have := HG3.out; omega)]
      push_cast; rfl⟩
    have E2 : Aside0 (IntKind.u64.wrap ((x0 : Int) * 2 ^ s) = (X0 : Int)) := ⟨by
      rw [HX0.out, show (x0 : Int) * 2 ^ s = ((x0 * 2 ^ s : Nat) : Int) by push_cast; rfl]
      generalize x0 * 2 ^ s = z
      simp [IntKind.wrap, IntKind.bits, IntKind.signed]⟩
    have E3 : Aside0 (IntKind.u64.wrap ((y : Int) * 2 ^ s) = (d : Int)) := ⟨by
      rw [show (y : Int) * 2 ^ s = ((y * 2 ^ s : Nat) : Int) by push_cast; rfl, ← HD.out]
      exact wu64 (by omega) (by have := HD2.out.2; omega)⟩
    clear hs0
    go_enter Tryz.func259, Tryz.ntmps259
    go_wp2_with (first | (go_at_call 160; refine (HN.out _).mono ?_; rintro e w' ⟨rfl, rfl⟩))
    rw [E1.out, E2.out, E3.out]
    refine (C1.out _).mono ?_
    rintro e w' ⟨rfl, rfl⟩
    go_wp2_with fail
    refine (C2.out _).mono ?_
    rintro e w' ⟨rfl, rfl⟩
    go_wp2_with fail
    refine (C3.out _).mono ?_
    rintro e w' ⟨rfl, rfl⟩
    go_wp2_with fail
    refine (C4.out _).mono ?_
    rintro e w' ⟨rfl, rfl⟩
    go_wp2_with fail
    refine (C5.out _).mono ?_
    rintro e w' ⟨rfl, rfl⟩
    go_wp2_with fail
    refine (C6.out _).mono ?_
    rintro e w' ⟨rfl, rfl⟩
    clear C1 C2 C3 C4 C5 C6 HN HOR
    rcases Nat.lt_or_ge R 18446744073709551616 with hRB | hRB
    · rw [HP1.out.trans (Nat.div_eq_of_lt hRB), HP0.out.trans (Nat.mod_eq_of_lt hRB)]
      by_cases hc : d ≤ R
      · skip
        obtain ⟨f1, f2⟩ := HK.out.2.1 hc (by have := HD2.out; omega)
        have F := Aside0.mk (And.intro f1 f2)
        have w1 : (q : Int) ≤ 18446744073709551614 := by have := HQB.out; omega
        clear f1 f2
        go_wp2_with fail
        refine bodyPost_ret (results_tmp2 rfl _ _ _) rfl ?_
        obtain ⟨f1, f2⟩ := F.out
        rw [WwOk, f1, f2]
        exact ⟨word_eqd (by first | rfl | (push_cast; omega)) (by have e : ((R - d : Nat) : Int) = (R : Int) - d := (by omega); rw [← e]; first | rfl | (simp; done) | (push_cast; rfl)), rfl⟩
      · skip
        have F := Aside0.mk (HK.out.1 (by omega))
        go_wp2_with fail
        refine bodyPost_ret (results_tmp2 rfl _ _ _) rfl ?_
        obtain ⟨f1, f2⟩ := F.out
        rw [WwOk, f1, f2]
        exact ⟨word_eqd (by first | rfl | (push_cast; omega)) (by first | rfl | (simp; done) | (push_cast; rfl)), rfl⟩
    · rw [show ρ1 = 1 by have := HP1.out; have := HR2.out; have := HD2.out; omega]
      have e2 : IntKind.u64.wrap ((ρ0 : Int) - d) = ((R - d : Nat) : Int) := by
        have h0 := HP0.out
        have h1 := HR2.out
        have h2 := HD2.out
        simp only [IntKind.wrap, IntKind.bits, IntKind.signed]
        simp
        omega
      obtain ⟨T, hT⟩ : ∃ T, T = R - d := ⟨_, rfl⟩
      rw [← hT] at e2
      have HT := Aside0.mk hT
      by_cases hc : d ≤ T
      · skip
        obtain ⟨f1, f2⟩ := HK.out.2.2 (by omega)
        have F := Aside0.mk (And.intro f1 f2)
        have hR3 : R < 3 * d := by have := HR2.out; have := HD2.out; omega
        have w1 : (q : Int) ≤ 18446744073709551613 := by have := HQB.out; omega
        have w2 : (T : Int) ≤ 18446744073709551615 := by have := HR2.out; omega
        have w3 : R - 2 * d = T - d := by omega
        rw [w3] at F
        clear f1 f2 hT w3 hR3
        go_wp2_with fail
        go_wp2_with fail
        refine bodyPost_ret (results_tmp2 rfl _ _ _) rfl ?_
        obtain ⟨f1, f2⟩ := F.out
        rw [WwOk, f1, f2]
        exact ⟨word_eqd (by first | rfl | (push_cast; omega)) (by have e : ((T - d : Nat) : Int) = (T : Int) - d := (by omega); rw [← e]; first | rfl | (simp; done) | (push_cast; rfl)), rfl⟩
      · have F := Aside0.mk (HK.out.2.1 (by have := HD2.out; omega) (by omega))
        have w1 : (q : Int) ≤ 18446744073709551614 := by have := F.out.1; have := HQB.out; omega
        rw [← hT] at F
        clear hT
        go_wp2_with fail
        refine bodyPost_ret (results_tmp2 rfl _ _ _) rfl ?_
        obtain ⟨f1, f2⟩ := F.out
        rw [WwOk, f1, f2]
        exact ⟨word_eqd (by first | rfl | (push_cast; omega)) (by first | rfl | (simp; done) | (push_cast; rfl)), rfl⟩
end Go.Proofs.YtgpoplfgngiilaaGreatDoor

namespace Go.Proofs.YtgpoplfgngiilaaGreatDoor
open Go.RowKit Go.Proofs.YtgpoplfgngiilaaGreatDoorW.PrintWords PAll Pl Dv

/-- What divWVW answers. -/
def DyOk (gz m : Nat) (X y : Nat) (cs : Array Value) (w : World) (e : Ending) (w' : World) : Prop :=
  ∃ (outs : List Int) (cs' : Array Value), e = .returned (.int .u64 ((X % y : Nat) : Int)) ∧ cs'.size = cs.size ∧ outs.length = m ∧ (∀ i, i < m → cs'[i]? = some (.int .u64 (outs.getD i 0))) ∧ w'.heap[gz]? = some (.cells cs' 167 (0, 0)) ∧ Dg (18446744073709551616 : Nat) outs ∧
    val (18446744073709551616 : Nat) outs = ((X / y : Nat) : Int) ∧ w.grownBy w' (some gz)

/-- What holds while divWVW runs: the words from k on are done. -/
structure DyI (gz gx m : Nat) (xs : List Int) (y : Nat) (cs : Array Value) (w W : World) (k r : Nat) (outs : List Int) (cs' : Array Value) : Prop where
  size : cs'.size = cs.size
  len : outs.length + k = m
  cell : ∀ i, i < outs.length → cs'[k + i]? = some (.int .u64 (outs.getD i 0))
  low : ∀ i, i < k → W.cell? ⟨gx, i, none⟩ = some (.int .u64 (xs.getD i 0))
  blk : W.heap[gz]? = some (.cells cs' 167 (0, 0))
  dg : Dg (18446744073709551616 : Nat) outs
  eq : val (18446744073709551616 : Nat) (xs.drop k) = val (18446744073709551616 : Nat) outs * y + r
  lt : r < y
  only : w.grownBy W (some gz)

theorem DyI.next {gz gx m : Nat} {xs : List Int} {y : Nat} {cs : Array Value} {w W : World} {k r : Nat} {outs : List Int} {cs' : Array Value} (h : DyI gz gx m xs y cs w W (k + 1) r outs cs') (hm : m ≤ cs.size) (hl : xs.length = m)
    (x : Nat) (hx : xs.getD k 0 = (x : Int)) (hx1 : x < 18446744073709551616) :
    DyI gz gx m xs y cs w (W.setCell ⟨gz, k, none⟩ (.int .u64 (((r * 18446744073709551616 + x) / y : Nat) : Int))) k ((r * 18446744073709551616 + x) % y) ((((r * 18446744073709551616 + x) / y : Nat) : Int) :: outs) (cs'.setIfInBounds k (.int .u64 (((r * 18446744073709551616 + x) / y : Nat) : Int))) where
  size := by simp [h.size]
  len := by have := h.len; simp; omega
  cell := fun i hi => by
    have hlen := h.len
    have hs := h.size
    rw [Array.getElem?_setIfInBounds]
    rcases i with _ | i
    · rw [if_pos (by omega), if_pos (by omega)]; rfl
    · rw [if_neg (by omega)]
      have := h.cell i (by simpa using hi)
      rw [show k + (i + 1) = k + 1 + i by omega, this]
      rfl
  low := fun i hi => by
    rw [← h.low i (by omega)]
    exact World.cell?_setCell_other _ _ _ _ (by intro e; have := congrArg Addr.off e; simp at this; omega)
  blk := blk_set h.blk k _
  dg := by
    have hy := h.lt
    refine Dg_cons.2 ⟨⟨Int.natCast_nonneg _, ?_⟩, h.dg⟩
    have : (r * 18446744073709551616 + x) / y < 18446744073709551616 := Nat.div_lt_of_lt_mul (by
      have : (r + 1) * 18446744073709551616 ≤ y * 18446744073709551616 := Nat.mul_le_mul_right _ hy
      rw [Nat.succ_mul] at this
      omega)
    exact_mod_cast this
  eq := by
    have hlen := h.len
    have he := h.eq
    have hk : k < xs.length := by omega
    have hdr : xs.drop k = (x : Int) :: xs.drop (k + 1) := by
      rw [List.drop_eq_getElem_cons hk]
      congr 1
      rw [← hx, List.getD_eq_getElem?_getD, List.getElem?_eq_getElem hk]; rfl
    rw [hdr, val_cons, he, val_cons]
    have hdm := Nat.div_add_mod (r * 18446744073709551616 + x) y
    have hdm' : (y : Int) * (((r * 18446744073709551616 + x) / y : Nat) : Int) + (((r * 18446744073709551616 + x) % y : Nat) : Int) = (r : Int) * 18446744073709551616 + x := by
      rw [← Int.natCast_mul, ← Int.natCast_add, hdm, Int.natCast_add, Int.natCast_mul]; rfl
    generalize (((r * 18446744073709551616 + x) / y : Nat) : Int) = q at *
    generalize (((r * 18446744073709551616 + x) % y : Nat) : Int) = r' at *
    have e64 : ((18446744073709551616 : Nat) : Int) = 18446744073709551616 := rfl
    rw [e64]
    generalize val 18446744073709551616 outs = V
    clear he hdr hdm
    grind
  lt := Nat.mod_lt _ (by have := h.lt; omega)
  only := only_setCell (p := ⟨gz, k, none⟩) h.only (.inl rfl) _

set_option maxHeartbeats 4000000 in
set_option maxRecDepth 100000 in
theorem divWVW_any (gz cz gx cx m X : Nat) (xs : List Int) (y : Nat) (cs : Array Value) (w : World) (hm0 : 0 < m) (hm : m ≤ 1000000) (hcz : m ≤ cz) (hcx : m ≤ cx) (hz : w.heap[gz]? = some (.cells cs 167 (0, 0))) (hs : m ≤ cs.size)
    (hx : Cw w gx m xs) (hl : xs.length = m) (hd : Dg (18446744073709551616 : Nat) xs) (hX : val (18446744073709551616 : Nat) xs = (X : Int)) (hy0 : 0 < y) (hy : y < 18446744073709551616) :
    Calls Tryz.prog 236 #[.slice (some ⟨gz, 0, none⟩) m cz, .int .u64 0, .slice (some ⟨gx, 0, none⟩) m cx, .int .u64 y] w (DyOk gz m X y cs w) := by
  rcases Nat.lt_or_ge 1 m with h1 | h1
  · have b1 : ((m : Int) == 1) = false := by simp; omega
    have HR := Aside0.mk (rec_any y hy0 hy w)
    have h0 : DyI gz gx m xs y cs w w m 0 [] cs := ⟨rfl, by simp, fun i h => by simp at h, fun i h => hx i h, hz, Dg_nil _, by rw [List.drop_eq_nil_of_le (by omega), val_nil, Int.zero_mul]; rfl, hy0, only_refl _ _⟩
    have H0 := Aside0.mk h0
    have HL := Aside0.mk hl
    have HD := Lib.hid hd
    have HX := Aside0.mk hX
    have HY := Aside0.mk (And.intro hy0 hy)
    have hmi : (m : Int) ≤ 1000000 := by omega
    have hmi0 : (1 : Int) ≤ m := by omega
    have hzi : (m : Int) ≤ cz := by omega
    have hxi : (m : Int) ≤ cx := by omega
    clear hz hx hl hd hX hy0 hy h0 h1
    go_enter Tryz.func236, Tryz.ntmps236
    go_wp2_with fail
    refine HR.out.mono ?_
    rintro e w1 ⟨rc, rfl, hrc, hb⟩
    have HRC := Aside0.mk hrc
    have H1 : Aside0 (DyI gz gx m xs y cs w w1 m 0 [] cs) := ⟨by
      have h := H0.out
      exact ⟨h.size, h.len, h.cell, fun i hi => pw_cell_below hb (h.low i hi), blk_below h.blk hb, h.dg, h.eq, h.lt, only_below h.only hb⟩⟩
    clear hrc hb
    go_wp2_with fail
    go_loopw [8, 12] (fun rv iv W => ∃ (k r : Nat) (I : Int) (outs : List Int) (cs' : Array Value), k ≤ m ∧ iv = .int .i64 I ∧ I = (k : Int) - 1 ∧ rv = .int .u64 r ∧ Aside0 (DyI gz gx m xs y cs w W k r outs cs')) (fun _ iv _ => (intOf iv + 1).toNat)
    case atStart => exact ⟨m, 0, _, [], cs, Nat.le_refl _, rfl, rfl, rfl, H1⟩
    case round =>
      obtain ⟨k, r, I, outs, cs', hk, rfl, hI, rfl, HI⟩ := hrel
      rcases Nat.eq_zero_or_pos k with h0 | hp
      · have hIn : decide (0 ≤ I) = false := decide_eq_false (by omega)
        have hIn2 : ¬ 0 ≤ I := by omega
        have HK := Aside0.mk h0
        clear h0 hI
        go_wp2_with fail
        go_ret
        have hin := HI.out
        obtain rfl := HK.out
        have he := hin.eq
        have hlt := hin.lt
        have hlen := hin.len
        rw [List.drop_zero, HX.out] at he
        have hr := val_range (by decide) hin.dg
        obtain ⟨V, hV⟩ := Int.eq_ofNat_of_zero_le hr.1
        rw [hV] at he
        have heN : X = V * y + r := by exact_mod_cast he
        have hq : X / y = V := by rw [heN, Nat.mul_comm, Nat.mul_add_div (by have := HY.out.1; omega), Nat.div_eq_of_lt hlt, Nat.add_zero]
        have hrr : X % y = r := by rw [heN, Nat.mul_comm, Nat.mul_add_mod, Nat.mod_eq_of_lt hlt]
        exact ⟨outs, cs', by rw [hrr]; rfl, hin.size, by omega, fun i hi => by have := hin.cell i (by omega); rwa [Nat.zero_add] at this, hin.blk, hin.dg, by rw [hV, hq], hin.only⟩
      · obtain ⟨j, hj⟩ : ∃ j, k = j + 1 := ⟨k - 1, by omega⟩
        have HJ := Aside0.mk hj
        have hin := HI.out
        rw [hj] at hin
        have hIj : I = (j : Int) := by omega
        have hjm : (j : Int) < m := by omega
        have hcx := hin.low j (by omega)
        have hdk := Dg_get (B := (18446744073709551616 : Nat)) (by decide) HD.out j
        obtain ⟨x, hxk⟩ := Int.eq_ofNat_of_zero_le hdk.1
        rw [hxk] at hcx hdk
        have hx1 : x < 18446744073709551616 := by omega
        obtain ⟨v0, hv0⟩ : ∃ v0, wr.cell? ⟨gz, j, none⟩ = some v0 := by
          rw [blk_cell hin.blk j]
          have := hin.size
          exact ⟨_, Array.getElem?_eq_getElem (by omega)⟩
        have hfz : wr.frozen? ⟨gz, j, none⟩ = false := blk_frozen hin.blk j
        have hnx := hin.next hs HL.out x hxk hx1
        have HW := Aside0.mk (divWW_any r x y rc HY.out.1 HY.out.2 hin.lt hx1 HRC.out wr)
        unfold WwOk at HW
        obtain ⟨q, hq⟩ : ∃ q, q = (r * 18446744073709551616 + x) / y := ⟨_, rfl⟩
        obtain ⟨r2, hr2⟩ : ∃ r2, r2 = (r * 18446744073709551616 + x) % y := ⟨_, rfl⟩
        rw [← hq, ← hr2] at hnx HW
        have HNX := Aside0.mk hnx
        have hj0 : (0 : Int) ≤ j := by omega
        subst hIj
        clear hin hdk hxk hx1 hnx hq hr2 hj hI hp
        go_wp2_with fail
        refine HW.out.mono ?_
        rintro e w' ⟨rfl, rfl⟩
        go_wp2_with fail
        go_roundw
        case rel => exact ⟨j, r2, _, _, _, by have := HJ.out; omega, rfl, rfl, rfl, HNX⟩
        case measure => have := HJ.out; first | (simp [intOf]; done) | (simp [intOf]; omega)
  · obtain rfl : m = 1 := by omega
    have hc0 := hx 0 (by omega)
    have hdk := Dg_get (B := (18446744073709551616 : Nat)) (by decide) hd 0
    obtain ⟨x, hxk⟩ := Int.eq_ofNat_of_zero_le hdk.1
    rw [hxk] at hc0 hdk
    have hxX : X = x := by
      obtain ⟨a, ha⟩ : ∃ a, xs = [a] := List.length_eq_one_iff.1 hl
      rw [ha] at hX hxk
      rw [val_cons, val_nil] at hX
      have : a = (x : Int) := hxk
      omega
    subst hxX
    have hx1 : X < 18446744073709551616 := by omega
    have HD2 := Aside0.mk (divB_zero X y hy0 hy hx1 w)
    obtain ⟨v0, hv0⟩ : ∃ v0, w.cell? ⟨gz, 0, none⟩ = some v0 := by
      rw [blk_cell hz 0]
      exact ⟨_, Array.getElem?_eq_getElem (by omega)⟩
    have hql : X / y < 18446744073709551616 := Nat.lt_of_le_of_lt (Nat.div_le_self _ _) hx1
    have hrl : X % y < 18446744073709551616 := Nat.lt_of_le_of_lt (Nat.mod_le _ _) hx1
    have HZ := Aside0.mk hz
    obtain ⟨q, hq⟩ : ∃ q, q = X / y := ⟨_, rfl⟩
    obtain ⟨r, hr⟩ : ∃ r, r = X % y := ⟨_, rfl⟩
    unfold DyOk
    rw [← hq, ← hr] at HD2 ⊢
    rw [← hq] at hql
    rw [← hr] at hrl
    have HQL := Aside0.mk hql
    have hqi : (q : Int) < 18446744073709551616 := by omega
    have hri : (r : Int) < 18446744073709551616 := by omega
    have hzi : (1 : Int) ≤ cz := by omega
    have hxi : (1 : Int) ≤ cx := by omega
    have HS := Aside0.mk hs
    clear hz hx hd hX hy0 hy hdk hxk hx1 hl h1 hq hr hql hrl hv0
    go_enter Tryz.func236, Tryz.ntmps236
    go_wp2_with fail
    refine HD2.out.mono ?_
    rintro e w1 ⟨rfl, hb⟩
    have hz1 := blk_below HZ.out hb
    obtain ⟨v1, hv1⟩ : ∃ v1, w1.cell? ⟨gz, 0, none⟩ = some v1 := by
      rw [blk_cell hz1 0]
      exact ⟨_, Array.getElem?_eq_getElem (by have := HS.out; omega)⟩
    have hfz : w1.frozen? ⟨gz, 0, none⟩ = false := blk_frozen hz1 0
    have HZ1 := Aside0.mk hz1
    have HB := Aside0.mk hb
    clear hz1 hb
    go_wp2_with fail
    go_ret
    refine ⟨[(q : Int)], cs.setIfInBounds 0 (.int .u64 q), rfl, by simp, rfl, fun i hi => ?_, blk_set HZ1.out 0 _, Dg_cons.2 ⟨⟨Int.natCast_nonneg _, by have := HQL.out; omega⟩, Dg_nil _⟩, by rw [val_cons, val_nil]; simp, only_setCell (p := ⟨gz, 0, none⟩) (only_below (only_refl _ _) HB.out) (.inl rfl) _⟩
    obtain rfl : i = 0 := by omega
    rw [Array.getElem?_setIfInBounds, if_pos rfl, if_pos (by have := HS.out; omega)]
    rfl
end Go.Proofs.YtgpoplfgngiilaaGreatDoor

namespace Go.Proofs.YtgpoplfgngiilaaGreatDoor
open Go.RowKit Go.Proofs.YtgpoplfgngiilaaGreatDoorW.PrintWords Go.Proofs.YtgpoplfgngiilaaGreatDoorW.PrintLast Go.Proofs.YtgpoplfgngiilaaGreatDoorW.PrintMore PAll Pl

/-- The value of a figure. -/
def dv (c : Int) : Int := if c ≤ 57 then c - 48 else if c ≤ 70 then c - 55 else c - 87
/-- A figure of base b. -/
def isFig (b : Nat) (c : Int) : Prop := (48 ≤ c ∧ c ≤ 57 ∨ 65 ≤ c ∧ c ≤ 70 ∨ 97 ≤ c ∧ c ≤ 102) ∧ dv c < b
/-- The value of the first k bytes, underscores left out. -/
def pv (b : Nat) (s : ByteArray) : Nat → Nat
  | 0 => 0
  | k + 1 => if bt s k = 95 then pv b s k else pv b s k * b + (dv (bt s k)).toNat

theorem pv_und (b : Nat) (s : ByteArray) (k : Nat) (h : bt s k = 95) : pv b s (k + 1) = pv b s k := if_pos h
theorem pv_fig (b : Nat) (s : ByteArray) (k : Nat) (h : bt s k ≠ 95) : pv b s (k + 1) = pv b s k * b + (dv (bt s k)).toNat := if_neg h

end Go.Proofs.YtgpoplfgngiilaaGreatDoor

namespace Go.Proofs.YtgpoplfgngiilaaGreatDoor
open Go.RowKit Go.Proofs.YtgpoplfgngiilaaGreatDoorW.PrintWords PAll Pl

/-- The text that is scanned: figures of base b from place a on, underscores between; t is what stands there. -/
structure Tx (b a : Nat) (s t : ByteArray) : Prop where
  size : s.size ≤ 100000
  at_ : ∀ j : Nat, j < t.size → bt s (a + j : Nat) = bt t j
  len : s.size = a + t.size
  pos : 0 < t.size
  fig0 : isFig b (bt t 0) ∧ bt t 0 ≠ 48
  fig : ∀ j : Nat, j < t.size → (bt t j = 95 ∧ 0 < j ∧ bt t (j - 1 : Nat) ≠ 95 ∧ j + 1 < t.size) ∨ (bt t j ≠ 95 ∧ isFig b (bt t j))

/-- Groups of figures: Z holds the full ones, d the i figures behind them. -/
structure Gp (b : Nat) (t : ByteArray) (k Z i d : Nat) : Prop where
  eq : pv b t k = Z * b ^ i + d
  lt : d < b ^ i

theorem Gp.start (b : Nat) (t : ByteArray) : Gp b t 0 0 0 0 := ⟨by simp [pv], by simp⟩
theorem Gp.fig {b : Nat} {t : ByteArray} {k Z i d : Nat} (h : Gp b t k Z i d) (x : Nat) (hx : (dv (bt t k)).toNat = x) (hxb : x < b) (h95 : bt t k ≠ 95) : Gp b t (k + 1) Z (i + 1) (d * b + x) where
  eq := by rw [pv_fig b t k h95, h.eq, hx, Nat.pow_succ, Nat.add_mul, Nat.mul_assoc, Nat.add_assoc]
  lt := by
    have h1 : (d + 1) * b ≤ b ^ i * b := Nat.mul_le_mul_right b h.lt
    rw [Nat.add_mul] at h1
    rw [Nat.pow_succ]
    omega
theorem Gp.full {b : Nat} {t : ByteArray} {k Z n d : Nat} (h : Gp b t k Z n d) : Gp b t k (Z * b ^ n + d) 0 0 := ⟨by rw [h.eq]; simp, by simp⟩

theorem pv_lt {b : Nat} {t : ByteArray} (hb : 2 ≤ b) (hf : ∀ j : Nat, j < t.size → bt t j = 95 ∨ isFig b (bt t j)) : ∀ k, k ≤ t.size → pv b t k < b ^ k
  | 0, _ => by simp [pv]
  | k + 1, hk => by
    have ih := pv_lt hb hf k (by omega)
    rw [Nat.pow_succ]
    by_cases h95 : bt t k = 95
    · rw [pv_und b t k h95]
      exact Nat.lt_of_lt_of_le ih (Nat.le_mul_of_pos_right _ (by omega))
    · rw [pv_fig b t k h95]
      rcases hf k (by omega) with h | h
      · exact absurd h h95
      · have h1 : (pv b t k + 1) * b ≤ b ^ k * b := Nat.mul_le_mul_right b ih
        rw [Nat.add_mul] at h1
        have h2 := h.2
        have : (dv (bt t k)).toNat < b := by omega
        omega

theorem Tx.fig' {b a : Nat} {s t : ByteArray} (h : Tx b a s t) (j : Nat) (hj : j < t.size) : bt t j = 95 ∨ isFig b (bt t j) := by
  rcases h.fig j hj with h | h
  · exact .inl h.1
  · exact .inr h.2

theorem Nt_only {w w1 : World} {base g : Nat} {v : Value} {xs : List Int} (h : Nt w base v xs) (ho : w.grownBy w1 (some g)) (hg : g < base) : Nt w1 base v xs := by
  refine World.ownsRow.kept h ho ?_
  rcases hv : v.ownBlock with _ | k
  · exact .inl rfl
  · right
    intro e
    cases e
    have := World.ownsRow.lt h _ hv
    omega
theorem Rd_below {w w1 : World} {base g : Nat} {s : ByteArray} {i p : Int} (h : RdAt w g s i p) (hb : Below base w w1) (hg : g < base) : RdAt w1 g s i p := (hb.block g hg).trans h
theorem only_base {w W w1 : World} {g base : Nat} (h : w.grownBy W (some g)) (hb : Below base W w1) (hw : w.heap.size ≤ base) : w.grownBy w1 (some g) :=
  ⟨hb.os.trans h.os, hb.tape.trans h.tape, hb.output.trans h.output, Nat.le_trans h.size hb.size, fun i hi hne => (hb.block i (by omega)).trans (h.block i hi hne)⟩

def Eof (w : World) (pa : Addr) : Prop := w.cell? ⟨1, 0, none⟩ = some (.iface 279 (.pointer (some pa)))
theorem Eof.only {w w1 : World} {pa : Addr} {g : Nat} (h : Eof w pa) (ho : w.grownBy w1 (some g)) (hg : 1 < g) : Eof w1 pa := by
  have hl := World.block_lt_of_cell? _ _ h
  exact (World.cell?_of_block (ho.block 1 hl (by intro e; cases e; omega))).trans h
theorem info279 : ∃ i, Tryz.prog.info? 279 = some i ∧ i.comparable = true := by
  have h : (Tryz.prog.info? 279).map (fun i => i.comparable) = some true := by kernel_rfl
  obtain ⟨i, hi, hc⟩ := Option.map_eq_some_iff.1 h
  exact ⟨i, hi, hc⟩
theorem info281 : ∃ j, Tryz.prog.info? 281 = some j ∧ j.size ≠ 0 := by
  have h : (Tryz.prog.info? 281).map (fun i => decide (i.size ≠ 0)) = some true := by kernel_rfl
  obtain ⟨i, hi, hc⟩ := Option.map_eq_some_iff.1 h
  exact ⟨i, hi, by simpa using hc⟩
theorem eof_eql (pa : Addr) (W : World) : (binOp .eql 85 (.iface 279 (.pointer (some pa))) (.iface 279 (.pointer (some pa)))).run Tryz.prog W = .ok (.bool true) W := by
  obtain ⟨i, hi, hc⟩ := info279
  obtain ⟨j, hj, _⟩ := info281
  exact run_eql_iface_ptr_same (P := Tryz.prog) (w := W) pa Tryz.underlying85 Tryz.underlying279 hi hc hj
theorem eof_neq (pa : Addr) (W : World) : (binOp .neq 85 (.iface 279 (.pointer (some pa))) (.iface 279 (.pointer (some pa)))).run Tryz.prog W = .ok (.bool false) W := by
  obtain ⟨i, hi, hc⟩ := info279
  obtain ⟨j, hj, _⟩ := info281
  simp only [binOp]
  simp [Op.equal, Op.maxDepth, run_equalIn_iface_ptr_same W 9998 pa Tryz.underlying85 Tryz.underlying279 hi hc hj]

theorem Eof.below {w w1 : World} {pa : Addr} {base : Nat} (h : Eof w pa) (hb : Below base w w1) (hg : 1 < base) : Eof w1 pa := (World.cell?_of_block (hb.block 1 hg)).trans h

/-- What is at hand: the next byte, or the end. -/
def ScH (a g : Nat) (s t : ByteArray) (pa : Addr) (W : World) (k : Nat) (er ch : Value) : Prop :=
  (k < t.size → er = .nilIface ∧ ch = .int .u8 (bt t k) ∧ RdAt W g s (a + k + 1 : Nat) (-1)) ∧ (k = t.size → er = .iface 279 (.pointer (some pa)) ∧ ch = .int .u8 0 ∧ RdAt W g s s.size (-1))
theorem ScH.first {a g : Nat} {s t : ByteArray} {pa : Addr} {W : World} (hp : 0 < t.size) (hr : RdAt W g s (a + 1 : Nat) (-1)) : ScH a g s t pa W 0 .nilIface (.int .u8 (bt t 0)) :=
  ⟨fun _ => ⟨rfl, rfl, hr⟩, fun h => by omega⟩
structure RdS (a g : Nat) (s : ByteArray) (k : Nat) (W : World) : Prop where out : RdAt W g s (a + k + 1 : Nat) (-1)
theorem RdS.some {a g : Nat} {s t : ByteArray} {pa : Addr} {W : World} {k : Nat} (h : RdS a g s (k + 1) W) (hk : k + 1 < t.size) : ScH a g s t pa W (k + 1) .nilIface (.int .u8 (bt t (k + 1 : Nat))) :=
  ⟨fun _ => ⟨rfl, rfl, h.out⟩, fun h => by omega⟩
structure RdE (g : Nat) (s : ByteArray) (W : World) : Prop where out : RdAt W g s s.size (-1)
theorem RdE.none {a g : Nat} {s t : ByteArray} {pa : Addr} {W : World} {k : Nat} (h : RdE g s W) (hk : k + 1 = t.size) : ScH a g s t pa W (k + 1) (.iface 279 (.pointer (some pa))) (.int .u8 0) :=
  ⟨fun h => by omega, fun _ => ⟨rfl, rfl, h.out⟩⟩

theorem gp_room {b n j d : Nat} (hb : 1 ≤ b) (hj : j < n) (h : d < b ^ j) : d * b + b ≤ b ^ n := by
  have h1 : (d + 1) * b ≤ b ^ j * b := Nat.mul_le_mul_right b h
  rw [Nat.add_mul, Nat.one_mul, ← Nat.pow_succ] at h1
  exact Nat.le_trans h1 (Nat.pow_le_pow_right hb hj)
theorem gp_room16 {j d : Nat} (hj : j < 16) (h : d < 16 ^ j) : (d : Int) * 16 + 16 ≤ 18446744073709551616 := by have := gp_room (by decide) hj h; omega
end Go.Proofs.YtgpoplfgngiilaaGreatDoor

namespace Go.Proofs.YtgpoplfgngiilaaGreatDoor
open Go.RowKit Go.Proofs.YtgpoplfgngiilaaGreatDoorW.PrintWords PAll Pl

theorem reverse_nt (base : Nat) (v : Value) (ws : List Int) (w : World) (hne : ws ≠ []) (hl : ws.length ≤ 100000) (hb : base ≤ w.heap.size) (ho : Nt w base v ws) :
    Calls Tryz.prog 152 #[v] w fun e w' => e = .returned (.tuple #[]) ∧ Nt w' base v ws.reverse ∧ Below base w w' := by
  obtain ⟨g, cap, cur, rfl, hbg, hg, hn, hcap, hs, hc⟩ := Nt_form ho hne
  refine (reverse_any g cap ws.length ws cur w (List.length_pos_iff.2 hne) hl hn rfl hg (by omega) hc).mono ?_
  rintro e w' ⟨rfl, cs', h1, h2, h3, h4⟩
  refine ⟨rfl, ?_, (Below.refl base w).grown h4 hb (fun k hk => by cases hk; exact hbg)⟩
  have := Nt_mk (w := w') (base := base) (g := g) (cap := cap) (cur := cs') (xs := ws.reverse) hbg h2 (by simpa using hn) hcap (by omega) (fun i hi => h3 i (by simpa using hi))
  rwa [List.length_reverse] at this

theorem norm_nt (base : Nat) (v : Value) (xs : List Int) (w : World) (hne : xs ≠ []) (hd : Dg (18446744073709551616 : Nat) xs) (ho : Nt w base v xs) :
    Calls Tryz.prog 134 #[v] w fun e w' => ∃ v', e = .returned v' ∧ Nt w base v' (figs 18446744073709551616 (val (18446744073709551616 : Nat) xs).toNat) ∧ w = w' := by
  obtain ⟨g, cap, cur, rfl, hbg, hg, hn, hcap, hs, hc⟩ := Nt_form ho hne
  refine (norm_any g cap xs.length xs w hn (by have := List.length_pos_iff.2 hne; omega) hcap hc).mono ?_
  rintro e w' ⟨i, hi, hz, ht, rfl, rfl⟩
  refine ⟨_, rfl, ?_, rfl⟩
  rw [← figs_of_trim (B := 18446744073709551616) (by decide) hd i hi hz ht]
  have hli : (xs.take i).length = i := by rw [List.length_take]; omega
  have hk := Nt_mk (w := w) (base := base) (g := g) (cap := cap) (cur := cur) (xs := xs.take i) hbg hg (by omega) hcap hs (fun j hj => by
    rw [hli] at hj
    rw [← blk_cell hg j, hc j (by omega)]
    simp [List.getD_eq_getElem?_getD, hj])
  rw [hli] at hk
  exact hk

theorem rsh_nt (base V s : Nat) (v : Value) (w : World) (hV : 0 < V) (hl : (figs 18446744073709551616 V).length ≤ 100000) (hs0 : 0 < s) (hs : s < 64) (hb : base ≤ w.heap.size) (ho : Nt w base v (figs 18446744073709551616 V)) :
    Calls Tryz.prog 153 #[v, v, .int .u64 s] w (RhOk base (V / 2 ^ s) w) := by
  have hne := figs_ne (B := 18446744073709551616) (by decide) hV
  obtain ⟨g, cap, cur, rfl, hbg, hg, hn, hcap, hsz, hc⟩ := Nt_form ho hne
  have h := rsh_any base g cap _ s _ cur w (List.length_pos_iff.2 hne) hl hs0 hs hb hbg hg hn hcap hsz hc rfl (figs_Dg (by decide) V)
  rw [figs_val (by decide), Int.toNat_natCast] at h
  exact h

theorem rev_Dg {B : Int} {ws : List Int} (h : Dg B ws) : Dg B ws.reverse := fun x hx => h x (List.mem_reverse.1 hx)
theorem rev_ne {ws : List Int} (h : ws ≠ []) : ws.reverse ≠ [] := by simpa using h

theorem pow2_16 {m : Nat} : 16 ^ m = 2 ^ (m * 4) := by rw [show (16 : Nat) = 2 ^ 4 from rfl, ← Nat.pow_mul, Nat.mul_comm]
theorem pv_len {b : Nat} {s t : ByteArray} (hT : Tx b 2 s t) (hb : 2 ≤ b) (hb2 : b ≤ 16) (m : Nat) (hm : b ^ m ≤ 18446744073709551616) : (figs 18446744073709551616 (pv b t t.size * b ^ m)).length ≤ 100000 := by
  have h1 := pv_lt hb (fun j hj => hT.fig' j hj) t.size (Nat.le_refl _)
  have h2 : (figs 18446744073709551616 (pv b t t.size * b ^ m)).length ≤ t.size + 1 := by
    refine figs_length_le (by decide) _ _ ?_
    rw [Nat.pow_succ]
    exact Nat.lt_of_lt_of_le (Nat.mul_lt_mul_of_pos_right h1 (Nat.pow_pos (by omega))) (Nat.mul_le_mul (Nat.pow_le_pow_left (by omega) _) hm)
  have := hT.len
  have := hT.size
  omega
theorem pow_le16 {m : Nat} (h : m ≤ 16) : 16 ^ m ≤ 18446744073709551616 := Nat.le_trans (Nat.pow_le_pow_right (by decide) h) (by decide : 16 ^ 16 ≤ 18446744073709551616)
theorem div_back16 {V m : Nat} : V * 16 ^ m / 2 ^ (m * 4) = V := by rw [pow2_16]; exact Nat.mul_div_cancel V (Nat.pow_pos (by decide))
end Go.Proofs.YtgpoplfgngiilaaGreatDoor

namespace Go.Proofs.YtgpoplfgngiilaaGreatDoor
open Go.RowKit Go.Proofs.YtgpoplfgngiilaaGreatDoorW.PrintWords PAll Pl

theorem Nt_slice {w : World} {base : Nat} {v : Value} {xs : List Int} (h : Nt w base v xs) : ∃ A c, v = .slice A xs.length c := own_slice h
theorem Nt_far {w : World} {base : Nat} {v : Value} {xs : List Int} (h : Nt w base v xs) {p : Addr} (hp : p.block < base) (u : Value) : Nt (w.setCell p u) base v xs := by
  refine own_setCell h ?_ u
  intro e
  have := own_base h _ e.symm
  omega

theorem newReader_any (s : ByteArray) (w : World) : Calls Tryz.prog 67 #[.string s] w fun e w' => e = .returned (.pointer (some ⟨w.heap.size, 0, none⟩)) ∧ w.alloc (.cells #[.string s, .int .i64 0, .int .i64 (-1)] 189) = w' := by
  go_enter Tryz.func67, Tryz.ntmps67
  go_wp2
  go_ret
  exact ⟨rfl, rfl⟩

end Go.Proofs.YtgpoplfgngiilaaGreatDoor

namespace Go.Proofs.YtgpoplfgngiilaaGreatDoor
open Go.RowKit Go.Proofs.YtgpoplfgngiilaaGreatDoorW.PrintWords PAll Pl Dv

theorem size167 : (Tryz.prog.info? 167).map (·.size) = some 1 := by kernel_rfl

/-- copy of words into a block. -/
theorem copy_words (W : World) (g n cap : Nat) (cur : Array Value) (A : Option Addr) (c : Nat) (xs : List Int) (hg : W.heap[g]? = some (.cells cur 167 (0, 0))) (hn : n ≤ cur.size) (hC : Kd.C (Kd.int .u64) W A n xs) (hn0 : 0 < n) :
    ∃ cur' : Array Value, cur'.size = cur.size ∧ (∀ i, i < n → cur'[i]? = some (.int .u64 (xs.getD i 0))) ∧ (W.setRow g cur').heap[g]? = some (.cells cur' 167 (0, 0)) ∧
      ∀ ty, (Builtin.copy_ #[114, 114] ty #[.slice (some ⟨g, 0, none⟩) n cap, .slice A n c]).run Tryz.prog W = .ok (goInt n) (W.setRow g cur') := by
  have hl := C_len hC
  have hln : (nums .u64 xs).length = n := by simp [nums, hl]
  obtain ⟨ad, rfl, _⟩ := C_at hC 0 hn0
  refine ⟨(cur.toList.take 0 ++ nums .u64 xs ++ cur.toList.drop (0 + (nums .u64 xs).length)).toArray, ?_, fun i hi => ?_, setRow_heap W g _ _ _ _ hg, fun ty => ?_⟩
  · simp [hln]; omega
  · have hi' : i < xs.length := by omega
    simp only [List.take_zero, List.nil_append]
    rw [List.getElem?_toArray, List.getElem?_append_left (by omega)]
    simp [nums, List.getD_eq_getElem?_getD, hi']
  · have h := run_copy_row (P := Tryz.prog) W 114 114 ty 167 g 0 n cap ad n c cur 167 (nums .u64 xs) Tryz.underlying114 size167 hg (by rw [hln]; simp) (fun j v hj => ?_) (by rw [hln]; omega) (fun v hv => ?_)
    · rw [h, hln]
    · have hj' : j < n := by
        have := (List.getElem?_eq_some_iff.1 hj).1
        omega
      obtain ⟨ad', hA', hcell⟩ := C_at hC j hj'
      cases hA'
      rw [hcell]
      have : j < xs.length := by omega
      simp [nums, List.getD_eq_getElem?_getD, this] at hj ⊢
      exact hj
    · simp [nums] at hv
      obtain ⟨x, _, rfl⟩ := hv
      rfl

/-- A value of a new number. -/
def NtOk (base : Nat) (xs : List Int) (w : World) (e : Ending) (w' : World) : Prop := ∃ v, e = .returned v ∧ Nt w' base v xs ∧ Below base w w'

set_option maxHeartbeats 2000000 in
set_option maxRecDepth 100000 in
theorem set_nil (base : Nat) (A : Option Addr) (n c : Nat) (xs : List Int) (w : World) (hC : Kd.C (Kd.int .u64) w A n xs) (hn : n ≤ 100000) (hb : base ≤ w.heap.size) :
    Calls Tryz.prog 94 #[.slice none 0 0, .slice A n c] w (NtOk base xs w) := by
  have hl := C_len hC
  rcases Nat.lt_trichotomy n 1 with h0 | h0 | h0
  · obtain rfl : n = 0 := by omega
    have hx : xs = [] := List.length_eq_zero_iff.1 hl
    have HM := Aside0.mk (make_fit none 0 0 0 w (by omega) (by omega))
    have HCP : ∀ ty W, (Builtin.copy_ #[114, 114] ty #[.slice none 0 0, .slice A 0 c]).run Tryz.prog W = .ok (goInt 0) W := fun ty W => run_copy_none W 114 114 ty 167 none A 0 0 0 c Tryz.underlying114 size167 rfl
    clear hC hl h0
    go_enter Tryz.func94, Tryz.ntmps94
    go_wp2_with fail
    refine HM.out.mono ?_
    rintro e w' ⟨rfl, rfl⟩
    go_wp2_with (at_builtin; refine Lib.wpList_copy_run _ rfl _ _ 114 114 rfl _ _ rfl rfl (HCP _ _) ?_)
    go_ret
    subst hx
    exact ⟨_, rfl, own_nil _ _ _ _, Below.refl _ _⟩
  · obtain rfl : n = 1 := by omega
    have hb0 := below_alloc (Below.refl w.heap.size w) (.cells #[.int .u64 0] 167)
    obtain ⟨cur', h1, h2, h3, h4⟩ := copy_words (w.alloc (.cells #[.int .u64 0] 167)) w.heap.size 1 1 _ A c xs (heap_alloc_new w _) (by simp) (Kd.C_below hC hb0) (by omega)
    have HCP := h4
    have HM := Aside0.mk (make_one none w)
    have HN : Aside0 (Nt ((w.alloc (.cells #[.int .u64 0] 167)).setRow w.heap.size cur') base (.slice (some ⟨w.heap.size, 0, none⟩) 1 1) xs) := ⟨by
      have := Nt_mk (w := (w.alloc (.cells #[.int .u64 0] 167)).setRow w.heap.size cur') (base := base) (g := w.heap.size) (cap := 1) (cur := cur') (xs := xs) hb h3 (by omega) (by omega) (by rw [h1]; rfl) (fun i hi => h2 i (by omega))
      rwa [hl] at this⟩
    have HB : Aside0 (Below base w ((w.alloc (.cells #[.int .u64 0] 167)).setRow w.heap.size cur')) := ⟨below_setRow (hb0.mono hb) hb _⟩
    clear hC hl h0 h1 h2 h3 h4
    go_enter Tryz.func94, Tryz.ntmps94
    go_wp2_with fail
    refine HM.out.mono ?_
    rintro e w' ⟨rfl, rfl⟩
    go_wp2_with fail
    go_ret
    exact ⟨_, rfl, HN.out, HB.out⟩
  · have hb0 := below_alloc (Below.refl w.heap.size w) (.cells (madeCells #[.int .u64 0] (n + 4)) 167)
    have hsz := madeCells_size n
    obtain ⟨cur', h1, h2, h3, h4⟩ := copy_words (w.alloc (.cells (madeCells #[.int .u64 0] (n + 4)) 167)) w.heap.size n (n + 4) _ A c xs (heap_alloc_new w _) (by omega) (Kd.C_below hC hb0) (by omega)
    have HCP := h4
    have HM := Aside0.mk (make_new none 0 0 n w (by omega) (by omega) (by omega))
    have HN : Aside0 (Nt ((w.alloc (.cells (madeCells #[.int .u64 0] (n + 4)) 167)).setRow w.heap.size cur') base (.slice (some ⟨w.heap.size, 0, none⟩) n (n + 4)) xs) := ⟨by
      have := Nt_mk (w := (w.alloc (.cells (madeCells #[.int .u64 0] (n + 4)) 167)).setRow w.heap.size cur') (base := base) (g := w.heap.size) (cap := n + 4) (cur := cur') (xs := xs) hb h3 (by omega) (by omega) (by omega) (fun i hi => h2 i (by omega))
      rwa [hl] at this⟩
    have HB : Aside0 (Below base w ((w.alloc (.cells (madeCells #[.int .u64 0] (n + 4)) 167)).setRow w.heap.size cur')) := ⟨below_setRow (hb0.mono hb) hb _⟩
    clear hC hl h0 h1 h2 h3 h4 hsz hn
    go_enter Tryz.func94, Tryz.ntmps94
    go_wp2_with fail
    refine HM.out.mono ?_
    rintro e w' ⟨rfl, rfl⟩
    go_wp2_with fail
    go_ret
    exact ⟨_, rfl, HN.out, HB.out⟩
end Go.Proofs.YtgpoplfgngiilaaGreatDoor

namespace Go.Proofs.YtgpoplfgngiilaaGreatDoor
open Go.RowKit Go.Proofs.YtgpoplfgngiilaaGreatDoorW.PrintWords PAll Pl Dv

theorem Nt_low {w : World} {base b : Nat} {v : Value} {xs : List Int} (h : Nt w b v xs) (hb : base ≤ b) : Nt w base v xs := by
  refine ⟨h.1, ?_⟩
  rcases h.2 with h | ⟨g', cap, cur, e1, e2, rest⟩
  · exact .inl h
  · exact .inr ⟨g', cap, cur, e1, Nat.le_trans hb e2, rest⟩

theorem setWord_zero (w : World) : Calls Tryz.prog 117 #[.slice none 0 0, .int .u64 0] w fun e w' => e = .returned (.slice none 0 0) ∧ w = w' := by
  go_enter Tryz.func117, Tryz.ntmps117
  go_wp2_with fail
  go_ret
  exact ⟨rfl, rfl⟩

theorem setWord_any (base r : Nat) (w : World) (hr : r < 18446744073709551616) (hb : base ≤ w.heap.size) :
    Calls Tryz.prog 117 #[.slice none 0 0, .int .u64 r] w (NtOk base (figs 18446744073709551616 r) w) := by
  rcases Nat.eq_zero_or_pos r with rfl | h0
  · refine (setWord_zero w).mono ?_
    rintro e w' ⟨rfl, rfl⟩
    exact ⟨_, rfl, by rw [figs_zero]; exact own_nil _ _ _ _, Below.refl _ _⟩
  · refine (setWord_nil r w h0).mono ?_
    rintro e w' ⟨rfl, rfl⟩
    refine ⟨_, rfl, ?_, (Below.refl _ _).alloc hb _⟩
    rw [figs_one (by decide) h0 hr]
    exact Nt_mk (xs := [(r : Int)]) hb (heap_alloc_new w _) (by simp) (by decide) rfl (fun i hi => by
      have : i = 0 := by simpa using hi
      subst this; rfl)

/-- Behind divWVW, words 0 struck. -/
theorem dy_norm {base g cap m i X y : Nat} {outs : List Int} {cs cs' : Array Value} {W : World} (hb : base ≤ g) (hcap : m ≤ cap) (hcm : cap ≤ 9223372036854775807) (hsz : cs.size = cap) (h1 : cs'.size = cs.size) (hl : outs.length = m)
    (hc : ∀ i, i < m → cs'[i]? = some (.int .u64 (outs.getD i 0))) (hg : W.heap[g]? = some (.cells cs' 167 (0, 0))) (hd : Dg (18446744073709551616 : Nat) outs) (hv : val (18446744073709551616 : Nat) outs = ((X / y : Nat) : Int))
    (hi : i ≤ m) (hz : ∀ j, i ≤ j → j < m → outs.getD j 0 = 0) (ht : i = 0 ∨ outs.getD (i - 1) 0 ≠ 0) : Nt W base (.slice (some ⟨g, 0, none⟩) i cap) (figs 18446744073709551616 (X / y)) := by
  have hf := figs_of_trim (B := 18446744073709551616) (by decide) hd i (by omega) (fun j h1 h2 => hz j h1 (by omega)) ht
  rw [hv, Int.toNat_natCast] at hf
  rw [← hf]
  have hli : (outs.take i).length = i := by rw [List.length_take]; omega
  have hk := Nt_mk (w := W) (base := base) (g := g) (cap := cap) (cur := cs') (xs := outs.take i) hb hg (by omega) hcm (by omega) (fun j hj => by
    rw [hli] at hj
    rw [hc j (by omega)]
    simp [List.getD_eq_getElem?_getD, hj])
  rw [hli] at hk
  exact hk

/-- What divW answers. -/
def DwOk (base Z y : Nat) (w : World) (e : Ending) (w' : World) : Prop := ∃ v, e = .returned (.tuple #[v, .int .u64 ((Z % y : Nat) : Int)]) ∧ Nt w' base v (figs 18446744073709551616 (Z / y)) ∧ Below base w w'

set_option maxHeartbeats 2000000 in
set_option maxRecDepth 100000 in
theorem divW_one (base Z : Nat) (A : Option Addr) (n c : Nat) (w : World) (hC : Kd.C (Kd.int .u64) w A n (figs 18446744073709551616 Z)) (hn : n ≤ 100000) (hb : base ≤ w.heap.size) :
    Calls Tryz.prog 194 #[.slice none 0 0, .slice A n c, .int .u64 1] w (DwOk base Z 1 w) := by
  have HS := Aside0.mk (set_nil base A n c _ w hC hn hb)
  clear hC hn hb
  go_enter Tryz.func194, Tryz.ntmps194
  go_wp2_with fail
  refine HS.out.mono ?_
  rintro e w' ⟨v, rfl, hv, hb⟩
  have HV := Aside0.mk hv
  have HB := Aside0.mk hb
  clear hv hb
  go_wp2_with fail
  refine bodyPost_ret (results_tmp2 rfl _ _ _) rfl ?_
  exact ⟨v, by rw [Nat.mod_one]; rfl, by rw [Nat.div_one]; exact HV.out, HB.out⟩

set_option maxHeartbeats 2000000 in
set_option maxRecDepth 100000 in
theorem divW_new (base Z y g cx : Nat) (w : World) (hy1 : 1 < y) (hy : y < 18446744073709551616) (hb : base ≤ w.heap.size) (m : Nat) (hm : m = (figs 18446744073709551616 Z).length) (hm1 : 1 < m) (hm2 : m ≤ 100000) (hcx : m ≤ cx)
    (hx : Cw w g m (figs 18446744073709551616 Z)) :
    Calls Tryz.prog 194 #[.slice none 0 0, .slice (some ⟨g, 0, none⟩) m cx, .int .u64 y] w (DwOk base Z y w) := by
  have b1 : ((y : Int) == 0) = false := by simp; omega
  have b2 : ((y : Int) == 1) = false := by simp; omega
  have b3 : ((m : Int) == 0) = false := by simp; omega
  have hb0 := below_alloc (Below.refl w.heap.size w) (.cells (madeCells #[.int .u64 0] (m + 4)) 167)
  have hsz := madeCells_size m
  have HM := Aside0.mk (make_new none 0 0 m w (by omega) (by omega) (by omega))
  have HV := Aside0.mk (divWVW_any w.heap.size (m + 4) g cx m Z _ y _ (w.alloc (.cells (madeCells #[.int .u64 0] (m + 4)) 167)) (by omega) (by omega) (by omega) hcx (heap_alloc_new w _) (by omega) (fun i hi => pw_cell_below hb0 (hx i hi)) hm.symm (figs_Dg (by decide) Z) (figs_val (by decide) Z) (by omega) hy)
  have HB := Aside0.mk hb
  have HB0 := Aside0.mk hb0
  have HSZ := Aside0.mk hsz
  obtain ⟨W0, hW0⟩ : ∃ W0, W0 = w.alloc (.cells (madeCells #[.int .u64 0] (m + 4)) 167) := ⟨_, rfl⟩
  have HSW := Aside0.mk (show w.heap.size < W0.heap.size by rw [hW0]; simp)
  rw [← hW0] at HM HV HB0
  obtain ⟨h, hh⟩ : ∃ h, h = w.heap.size := ⟨_, rfl⟩
  rw [← hh] at HM HV HB HB0 HSW
  obtain ⟨cs0, hcs0⟩ : ∃ c, c = madeCells #[.int .u64 0] (m + 4) := ⟨_, rfl⟩
  rw [← hcs0] at HV HSZ
  clear hx hb hb0 hsz hm hy hy1 hW0 hh hcs0
  go_enter Tryz.func194, Tryz.ntmps194
  go_wp2_with fail
  refine HM.out.mono ?_
  rintro e w' ⟨rfl, rfl⟩
  go_wp2_with fail
  refine HV.out.mono ?_
  rintro e w1 ⟨outs, cs', rfl, h1, h2, h3, h4, h5, h6, h7⟩
  have H1 := Aside0.mk (And.intro h1 (And.intro h2 h6))
  have H3 := Lib.hid h3
  have H4 := Aside0.mk h4
  have H5 := Lib.hid h5
  have H7 := Aside0.mk h7
  clear h1 h2 h3 h4 h5 h6 h7
  go_wp2_with fail
  refine (norm_any h (m + 4) m outs _ (by omega) (by omega) (by omega) (fun i hi => by rw [blk_cell H4.out i]; exact H3.out i hi)).mono ?_
  rintro e w2 ⟨i, hi, hz, ht, rfl, rfl⟩
  have HI := Aside0.mk (And.intro hi (And.intro hz ht))
  clear hi hz ht
  go_wp2_with fail
  refine bodyPost_ret (results_tmp2 rfl _ _ _) rfl ?_
  obtain ⟨hi, hz, ht⟩ := HI.out
  refine ⟨_, rfl, dy_norm HB.out (by omega) (by omega) HSZ.out H1.out.1 H1.out.2.1 H3.out H4.out H5.out H1.out.2.2 hi hz ht, ?_⟩
  exact (HB0.out.mono HB.out).grown H7.out (by have := HB.out; have := HSW.out; omega) (fun k hk => by cases hk; exact HB.out)

/-- What div answers. -/
def DivOk (base Z y : Nat) (w : World) (e : Ending) (w' : World) : Prop := ∃ q r, e = .returned (.tuple #[q, r]) ∧ Nt w' base q (figs 18446744073709551616 (Z / y)) ∧ Nt w' base r (figs 18446744073709551616 (Z % y)) ∧ Below base w w'

set_option maxHeartbeats 2000000 in
set_option maxRecDepth 100000 in
/-- div by one word, out of what divW answers. -/
theorem div_of (base Z y : Nat) (zv stk uv : Value) (gv cv : Nat) (w : World) (hy0 : 0 < y) (hy : y < 18446744073709551616) (hb : base ≤ w.heap.size) (hv : w.cell? ⟨gv, 0, none⟩ = some (.int .u64 y)) (hcv : 1 ≤ cv)
    (hD : Calls Tryz.prog 194 #[zv, uv, .int .u64 y] w (DwOk base Z y w)) :
    Calls Tryz.prog 139 #[zv, stk, .slice none 0 0, uv, .slice (some ⟨gv, 0, none⟩) 1 cv] w (DivOk base Z y w) := by
  have HD := Aside0.mk hD
  have HB := Aside0.mk hb
  have HS := Lib.hid (fun W => setWord_any W.heap.size (Z % y) W (Nat.lt_trans (Nat.mod_lt _ hy0) hy) (Nat.le_refl _))
  obtain ⟨r, hr⟩ : ∃ r, r = Z % y := ⟨_, rfl⟩
  unfold DwOk at HD
  unfold DivOk
  rw [← hr] at HD HS ⊢
  clear hD hy0 hy hb hr
  go_enter_defers Tryz.func139, Tryz.ntmps139
  go_wp2_with fail
  refine HD.out.mono ?_
  rintro e w1 ⟨q, rfl, hq, hb1⟩
  have HQ := Aside0.mk hq
  have HB1 := Aside0.mk hb1
  clear hq hb1
  go_wp2_with fail
  refine (HS.out w1).mono ?_
  rintro e w2 ⟨rv, rfl, hrv, hb2⟩
  have HR := Aside0.mk hrv
  have HB2 := Aside0.mk hb2
  clear hrv hb2
  go_wp2_with fail
  refine ⟨_, results_tmp2 rfl _ _ _, q, rv, rfl, Nt_below HQ.out HB2.out, Nt_low HR.out (Nat.le_trans HB.out HB1.out.size), HB1.out.trans (HB2.out.mono (Nat.le_trans HB.out HB1.out.size))⟩
end Go.Proofs.YtgpoplfgngiilaaGreatDoor
