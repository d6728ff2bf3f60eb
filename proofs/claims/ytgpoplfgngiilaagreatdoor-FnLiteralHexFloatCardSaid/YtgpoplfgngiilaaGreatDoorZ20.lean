/- The text of a hexadecimal float: figures with zeros ahead, a point let in, an exponent behind: what nat.scan finds at each place. MakeFromLiteral at a hexadecimal text with a point and an exponent by 2. laws.pointed: zeros ahead, a point let in. Functions of the program as Lean functions, and that the Go code comes to their answers (the kit's print.py wrote it; cut into this file by pieces.py): spec_Len, spec_Shl. -/
import Derived.Test.YtgpoplfgngiilaaGreatDoorZ03
import Derived.Test.YtgpoplfgngiilaaGreatDoorZ14
import Derived.Test.YtgpoplfgngiilaaGreatDoorZ18
import Derived.Test.YtgpoplfgngiilaaGreatDoorZ19
import Derived.BigQuiet
set_option linter.unusedVariables false
set_option linter.unusedSimpArgs false
namespace Go.Proofs.YtgpoplfgngiilaaGreatDoor
open Go.RowKit Go.Proofs.YtgpoplfgngiilaaGreatDoorW.PrintWords PAll Pl

theorem tab16_all : ∀ d : Fin 16, ((48 ≤ bt low d.val ∧ bt low d.val ≤ 57 ∨ 65 ≤ bt low d.val ∧ bt low d.val ≤ 70 ∨ 97 ≤ bt low d.val ∧ bt low d.val ≤ 102) ∧ dv (bt low d.val) = d.val) ∧
    ((48 ≤ bt upp d.val ∧ bt upp d.val ≤ 57 ∨ 65 ≤ bt upp d.val ∧ bt upp d.val ≤ 70 ∨ 97 ≤ bt upp d.val ∧ bt upp d.val ≤ 102) ∧ dv (bt upp d.val) = d.val) := by decide +kernel
theorem tab16 (up : Bool) (d : Nat) (hd : d < 16) : (48 ≤ bt (if up = true then upp else low) d ∧ bt (if up = true then upp else low) d ≤ 57 ∨ 65 ≤ bt (if up = true then upp else low) d ∧ bt (if up = true then upp else low) d ≤ 70 ∨ 97 ≤ bt (if up = true then upp else low) d ∧ bt (if up = true then upp else low) d ≤ 102) ∧ dv (bt (if up = true then upp else low) d) = d := by
  have h := tab16_all ⟨d, hd⟩
  cases up
  · exact h.1
  · exact h.2

/-- InBase's text of base 16: figures, and their value. -/
theorem figs16 {V : Nat} {up : Bool} {t : ByteArray} (hF : Figs (if up = true then upp else low) 16 V t) (hlt : V < 16 ^ t.size) : (∀ j : Nat, j < t.size → bt t j ≠ 95 ∧ isFig 16 (bt t j)) ∧ pv 16 t t.size = V := by
  have hdig : ∀ j : Nat, j < t.size → ∃ d, d < 16 ∧ d = V / 16 ^ (t.size - 1 - j) % 16 ∧ bt t j = bt (if up = true then upp else low) d := fun j hj => ⟨_, Nat.mod_lt _ (by omega), rfl, hF j hj⟩
  have hfig : ∀ j : Nat, j < t.size → bt t j ≠ 95 ∧ isFig 16 (bt t j) := by
    intro j hj
    obtain ⟨d, hd, _, hdt⟩ := hdig j hj
    have h := tab16 up d hd
    rw [hdt]
    refine ⟨by have := h.1; omega, h.1, ?_⟩
    rw [h.2]
    omega
  refine ⟨hfig, ?_⟩
  have hval : ∀ k, k ≤ t.size → pv 16 t k = V / 16 ^ (t.size - k) := by
    intro k
    induction k with
    | zero =>
      intro _
      rw [Nat.sub_zero, Nat.div_eq_of_lt hlt]
      rfl
    | succ k ih =>
      intro hk
      rw [pv_fig 16 t k (hfig k (by omega)).1, ih (by omega)]
      obtain ⟨d, hd, hde, hdt⟩ := hdig k (by omega)
      have h := tab16 up d hd
      rw [hdt, h.2, Int.toNat_natCast, hde]
      have e1 : t.size - k = (t.size - (k + 1)) + 1 := by omega
      have e2 : t.size - 1 - k = t.size - (k + 1) := by omega
      rw [e1, e2, Nat.pow_succ, ← Nat.div_div_eq_div_mul, Nat.mul_comm]
      exact Nat.div_add_mod _ _
  rw [hval t.size (Nat.le_refl _), Nat.sub_self, Nat.pow_zero, Nat.div_one]

/-- Zeros. -/
def zs (n : Nat) : ByteArray := ⟨Array.replicate n 48⟩
theorem zs_size (n : Nat) : (zs n).size = n := Array.size_replicate
theorem zs_at (n j : Nat) (h : j < n) : bt (zs n) j = 48 := by
  rw [bt_nat (zs n) j (by rw [zs_size]; exact h)]
  have : (zs n)[j]'(by rw [zs_size]; exact h) = 48 := by
    show (Array.replicate n (48 : UInt8))[j]'(by simpa using h) = 48
    simp
  rw [this]; rfl
theorem zs_one (n : Nat) : (⟨#[48]⟩ : ByteArray) ++ zs n = zs (n + 1) := by
  apply ByteArray.ext
  rw [ByteArray.data_append]
  show #[48] ++ Array.replicate n 48 = Array.replicate (n + 1) 48
  apply Array.ext'
  rw [Array.toList_append, Array.toList_replicate, Array.toList_replicate, List.replicate_succ]
  rfl
theorem zs_succ (n : Nat) (t : ByteArray) : (⟨#[48]⟩ : ByteArray) ++ (zs n ++ t) = zs (n + 1) ++ t := by
  rw [← ByteArray.append_assoc, zs_one]
theorem zs_zero (t : ByteArray) : zs 0 ++ t = t := by
  apply ByteArray.ext
  rw [ByteArray.data_append]
  show Array.replicate 0 48 ++ t.data = t.data
  simp

theorem pv_zs (n : Nat) (t : ByteArray) : ∀ k, k ≤ t.size → pv 16 (zs n ++ t) (n + k) = pv 16 t k
  | 0, _ => by
    have h : ∀ j, j ≤ n → pv 16 (zs n ++ t) j = 0 := by
      intro j
      induction j with
      | zero => intro _; rfl
      | succ j ih =>
        intro hj
        have hb : bt (zs n ++ t) j = 48 := by rw [bt_left _ _ j (by rw [zs_size]; omega), zs_at n j (by omega)]
        rw [pv_fig 16 _ j (by rw [hb]; decide), ih (by omega), hb]
        rfl
    exact h n (Nat.le_refl _)
  | k + 1, hk => by
    have ih := pv_zs n t k (by omega)
    have hb : bt (zs n ++ t) (n + k : Nat) = bt t k := by
      have := bt_right (zs n) t k (by omega)
      rwa [zs_size] at this
    rw [← Nat.add_assoc]
    by_cases h : bt t k = 95
    · rw [pv_und 16 _ (n + k) (by rw [hb]; exact h), pv_und 16 t k h, ih]
    · rw [pv_fig 16 _ (n + k) (by rw [hb]; exact h), pv_fig 16 t k h, ih, hb]

/-- Figures with zeros ahead. -/
theorem figs_zs (n : Nat) (t : ByteArray) (hf : ∀ j : Nat, j < t.size → bt t j ≠ 95 ∧ isFig 16 (bt t j)) : ∀ j : Nat, j < (zs n ++ t).size → bt (zs n ++ t) j ≠ 95 ∧ isFig 16 (bt (zs n ++ t) j) := by
  intro j hj
  rw [ByteArray.size_append, zs_size] at hj
  rcases Nat.lt_or_ge j n with h | h
  · rw [bt_left _ _ j (by rw [zs_size]; omega), zs_at n j h]
    exact ⟨by decide, .inl (by decide), by decide⟩
  · obtain ⟨i, rfl⟩ := Nat.exists_eq_add_of_le h
    have hb : bt (zs n ++ t) (n + i : Nat) = bt t i := by
      have := bt_right (zs n) t i (by omega)
      rwa [zs_size] at this
    rw [hb]
    exact hf i (by omega)

/-- The figures with a point let in. -/
def ptd (u : ByteArray) (p : Nat) : ByteArray := (u.extract 0 (u.size - p) ++ (⟨#[46]⟩ : ByteArray)) ++ u.extract (u.size - p) u.size

theorem ptd_size (u : ByteArray) (p : Nat) (hp : p ≤ u.size) : (ptd u p).size = u.size + 1 := by
  unfold ptd
  rw [ByteArray.size_append, ByteArray.size_append, ByteArray.size_extract, ByteArray.size_extract]
  have : (⟨#[46]⟩ : ByteArray).size = 1 := rfl
  omega
theorem ptd_lo (u : ByteArray) (p j : Nat) (hp : p ≤ u.size) (hj : j < u.size - p) : bt (ptd u p) j = bt u j := by
  unfold ptd
  have h1 : (u.extract 0 (u.size - p)).size = u.size - p := by rw [ByteArray.size_extract]; omega
  have h2 : (⟨#[46]⟩ : ByteArray).size = 1 := rfl
  rw [bt_left _ _ j (by rw [ByteArray.size_append]; omega), bt_left _ _ j (by omega), bt_ext u 0 (u.size - p) j (by omega) (by omega), Nat.zero_add]
theorem ptd_dot (u : ByteArray) (p : Nat) (hp : p ≤ u.size) : bt (ptd u p) (u.size - p : Nat) = 46 := by
  unfold ptd
  have h1 : (u.extract 0 (u.size - p)).size = u.size - p := by rw [ByteArray.size_extract]; omega
  have h2 : (⟨#[46]⟩ : ByteArray).size = 1 := rfl
  rw [bt_left _ _ _ (by rw [ByteArray.size_append]; omega)]
  have := bt_right (u.extract 0 (u.size - p)) (⟨#[46]⟩ : ByteArray) 0 (by rw [h2]; omega)
  rw [h1, Nat.add_zero] at this
  rw [this]
  rfl
theorem ptd_hi (u : ByteArray) (p j : Nat) (hp : p ≤ u.size) (h1j : u.size - p ≤ j) (hj : j < u.size) : bt (ptd u p) (j + 1 : Nat) = bt u j := by
  unfold ptd
  have h1 : (u.extract 0 (u.size - p)).size = u.size - p := by rw [ByteArray.size_extract]; omega
  have h2 : (⟨#[46]⟩ : ByteArray).size = 1 := rfl
  have h3 : (u.extract (u.size - p) u.size).size = p := by rw [ByteArray.size_extract]; omega
  obtain ⟨i, rfl⟩ := Nat.exists_eq_add_of_le h1j
  have := bt_right (u.extract 0 (u.size - p) ++ (⟨#[46]⟩ : ByteArray)) (u.extract (u.size - p) u.size) i (by omega)
  rw [ByteArray.size_append, h1, h2] at this
  rw [show u.size - p + i + 1 = u.size - p + 1 + i by omega, this, bt_ext u (u.size - p) u.size i (by omega) (by omega)]

/-- The whole text. -/
theorem txp_of (pre u ex : ByteArray) (p : Nat) (hpre : pre.size = 2) (hp : p ≤ u.size) (hu0 : 0 < u.size) (hu : u.size ≤ 1000) (hf : ∀ j : Nat, j < u.size → bt u j ≠ 95 ∧ isFig 16 (bt u j)) (hex : 2 ≤ ex.size) (hex2 : ex.size ≤ 1000) (hc : bt ex 0 = 112 ∨ bt ex 0 = 80) :
    TxP (u.size - p) ((pre ++ ptd u p) ++ ex) u := by
  have hs := ptd_size u p hp
  have hl : (pre ++ ptd u p).size = 3 + u.size := by rw [ByteArray.size_append, hpre, hs]; omega
  have hin : ∀ j : Nat, j < u.size + 1 → bt ((pre ++ ptd u p) ++ ex) (2 + j : Nat) = bt (ptd u p) j := fun j hj => by
    rw [bt_left _ _ _ (by omega)]
    have := bt_right pre (ptd u p) j (by omega)
    rwa [hpre] at this
  refine ⟨by rw [ByteArray.size_append, hl]; omega, by omega, hu0, fun j hj => ?_, ?_, fun j h1 h2 => ?_, ?_, by rw [ByteArray.size_append, hl]; omega, hf⟩
  · rw [hin j (by omega), ptd_lo u p j hp hj]
  · rw [hin _ (by omega), ptd_dot u p hp]
  · rw [show 3 + j = 2 + (j + 1) by omega, hin _ (by omega), ptd_hi u p j hp h1 h2]
  · have := bt_right (pre ++ ptd u p) ex 0 (by omega)
    rw [hl, Nat.add_zero] at this
    rw [this]
    exact hc
theorem txp_ex (pre u ex : ByteArray) (p : Nat) (hpre : pre.size = 2) (hp : p ≤ u.size) (j : Nat) (hj : j < ex.size) : bt ((pre ++ ptd u p) ++ ex) (3 + u.size + j : Nat) = bt ex j := by
  have hl : (pre ++ ptd u p).size = 3 + u.size := by rw [ByteArray.size_append, hpre, ptd_size u p hp]; omega
  have := bt_right (pre ++ ptd u p) ex j hj
  rwa [hl] at this
end Go.Proofs.YtgpoplfgngiilaaGreatDoor

namespace Go.Proofs.YtgpoplfgngiilaaGreatDoor
open Go.RowKit Go.Proofs.YtgpoplfgngiilaaGreatDoorW.PrintWords PAll Pl Dv

/-- What is known of the text: scan reads the mantissa V of n figures, n - q of them behind the point, scanExponent the exponent x. -/
structure HexT (x : Int) (V q n : Nat) (s : ByteArray) (pa : Addr) : Prop where
  s5 : 5 ≤ s.size
  sz : s.size ≤ 100000
  h45 : bt s 0 ≠ 45
  h43 : bt s 0 ≠ 43
  h47 : ∀ i : Nat, i < s.size → bt s i ≠ 47
  qn : q ≤ n
  n100 : n ≤ 100
  x0 : -1000 ≤ x
  x1 : x ≤ 1000
  scan : ∀ g W, 1 < g → RdAt W g s 0 (-1) → Eof W pa → g < W.heap.size → Calls Tryz.prog 109 #[.slice none 0 0, .iface 133 (.pointer (some ⟨g, 0, none⟩)), .int .i64 0, .bool true] W (SqOk q V n g s W)
  exp : ∀ g W, 1 < g → RdAt W g s (3 + n : Nat) (-1) → Eof W pa → g < W.heap.size → Calls Tryz.prog 112 #[.iface 133 (.pointer (some ⟨g, 0, none⟩)), .bool true, .bool true] W (XeOk x g s W)

/-- The fraction that a literal comes to, in lowest terms. -/
def hN (V : Nat) (E : Int) : Nat := rNum V E / Nat.gcd (rNum V E) (rDen E)
def hD (V : Nat) (E : Int) : Nat := rDen E / Nat.gcd (rNum V E) (rDen E)

theorem mfl_hex {x : Int} {V q n : Nat} {s : ByteArray} {pa : Addr} (h : HexT x V q n s pa) (hV : V < 18446744073709551616) (w : World) (hev : Eof w pa) :
    Calls Tryz.prog 27 #[.string s, .int .i64 6, .int .u64 0] w (MfF (hN V (x + ((q : Int) - n) * 4)) (hD V (x + ((q : Int) - n) * 4)) w) := by
  have h5 := h.s5
  refine mfl_float _ _ s w ?_
  rcases Nat.eq_zero_or_pos V with hV0 | hV0
  · subst hV0
    have e1 : hN 0 (x + ((q : Int) - n) * 4) = 0 := by simp [hN, rNum]
    have e2 : hD 0 (x + ((q : Int) - n) * 4) = 1 := by
      rw [hD, rNum, Nat.zero_mul, Nat.gcd_zero_left]
      exact Nat.div_self rDen_pos
    rw [e1, e2]
    refine mkFloat_zero 0 1 s pa w h5 h.sz hev (fun f g W hf hfg hgw hF hr he => ?_) (fun z W hz1 hz he => ?_)
    · refine (flScan_zero x q n f g s pa W hF hfg hf (by omega) hgw (by omega) h.sz h.h45 h.h43 hr he (fun W' hr' he' hg' => h.scan g W' (by omega) hr' he' hg') (fun W' hr' he' hg' => h.exp g W' (by omega) hr' he' hg')).mono ?_
      rintro e w' ⟨he, ⟨m, hk⟩, hrd, hb⟩
      exact ⟨he, ⟨0, m, 0, rfl, hk⟩, hrd, hb⟩
    · exact ratSet_zero z _ pa W rfl rfl hz hz1 he
  · refine mkFloat_one _ _ s pa w h5 h.sz hev (fun f g W hf hfg hgw hF hr he => ?_) (fun z W hz1 hz he => ?_)
    · refine (flScan_one x V q n f g s pa W hF hV0 hV h.qn h.n100 h.x0 h.x1 hfg hf (by omega) hgw (by omega) h.sz h.h45 h.h43 hr he (fun W' hr' he' hg' => h.scan g W' (by omega) hr' he' hg') (fun W' hr' he' hg' => h.exp g W' (by omega) hr' he' hg')).mono ?_
      rintro e w' ⟨he, ⟨m, e', h1, h2, hk⟩, hrd, hb⟩
      exact ⟨he, ⟨1, m, e', ⟨rfl, h1, h2⟩, hk⟩, hrd, hb⟩
    · exact ratSet_one x V q n z s pa W hV0 hV h.qn h.n100 h.x0 h.x1 hz hz1 (by omega) h.sz h.h45 h.h43 h.h47 he h.scan h.exp

theorem no47 {a b : ByteArray} (ha : ∀ j : Nat, j < a.size → bt a j ≠ 47) (hb : ∀ j : Nat, j < b.size → bt b j ≠ 47) : ∀ j : Nat, j < (a ++ b).size → bt (a ++ b) j ≠ 47 := by
  intro j hj
  rw [ByteArray.size_append] at hj
  by_cases h : j < a.size
  · rw [bt_left a b j h]; exact ha j h
  · obtain ⟨i, rfl⟩ := Nat.exists_eq_add_of_le (Nat.le_of_not_lt h)
    rw [bt_right a b i (by omega)]; exact hb i (by omega)

theorem ptd47 {u : ByteArray} {p : Nat} (hp : p ≤ u.size) (hf : ∀ j : Nat, j < u.size → bt u j ≠ 95 ∧ isFig 16 (bt u j)) : ∀ j : Nat, j < (ptd u p).size → bt (ptd u p) j ≠ 47 := by
  intro j hj
  rw [ptd_size u p hp] at hj
  rcases Nat.lt_trichotomy j (u.size - p) with h | h | h
  · rw [ptd_lo u p j hp h]
    have h1 := (hf j (by omega)).2.1
    omega
  · rw [h, ptd_dot u p hp]; decide
  · obtain ⟨i, rfl⟩ : ∃ i, j = i + 1 := ⟨j - 1, by omega⟩
    rw [ptd_hi u p i hp (by omega) (by omega)]
    have h1 := (hf i (by omega)).2.1
    omega

theorem hexT_of (pre u L sg t : ByteArray) (p : Nat) (x : Int) (pa : Addr) (hpre : pre.size = 2) (h0 : bt pre 0 = 48) (h1 : bt pre 1 = 120 ∨ bt pre 1 = 88) (hp : p ≤ u.size) (hu0 : 0 < u.size) (hu : u.size ≤ 100)
    (hf : ∀ j : Nat, j < u.size → bt u j ≠ 95 ∧ isFig 16 (bt u j)) (hL : L.size = 1) (hLc : bt L 0 = 112 ∨ bt L 0 = 80) (hE : ExT x sg t) (hx0 : -1000 ≤ x) (hx1 : x ≤ 1000) :
    HexT x (pv 16 u u.size) (u.size - p) u.size ((pre ++ ptd u p) ++ (L ++ sg ++ t)) pa := by
  have hps := ptd_size u p hp
  have htp := hE.pos
  have htl := hE.le
  have hsg : sg.size ≤ 1 := by rcases hE.way with ⟨rfl, _⟩ | ⟨rfl | rfl, _⟩ <;> decide
  have hexs : (L ++ sg ++ t).size = 1 + sg.size + t.size := by rw [ByteArray.size_append, ByteArray.size_append, hL]
  have hss : ((pre ++ ptd u p) ++ (L ++ sg ++ t)).size = 3 + u.size + 1 + sg.size + t.size := by rw [ByteArray.size_append, ByteArray.size_append, hpre, hps, hexs]; omega
  have hb0 : bt ((pre ++ ptd u p) ++ (L ++ sg ++ t)) 0 = 48 := by
    have e1 := bt_left (pre ++ ptd u p) (L ++ sg ++ t) 0 (by rw [ByteArray.size_append]; omega)
    have e2 := bt_left pre (ptd u p) 0 (by omega)
    exact (e1.trans e2).trans h0
  have hb1 : bt ((pre ++ ptd u p) ++ (L ++ sg ++ t)) 1 = bt pre 1 := by
    have e1 := bt_left (pre ++ ptd u p) (L ++ sg ++ t) 1 (by rw [ByteArray.size_append]; omega)
    have e2 := bt_left pre (ptd u p) 1 (by omega)
    exact e1.trans e2
  have hx0c : bt (L ++ sg ++ t) 0 = bt L 0 := by
    have e1 := bt_left (L ++ sg) t 0 (by rw [ByteArray.size_append]; omega)
    have e2 := bt_left L sg 0 (by omega)
    exact e1.trans e2
  have hT : TxP (u.size - p) ((pre ++ ptd u p) ++ (L ++ sg ++ t)) u := txp_of pre u (L ++ sg ++ t) p hpre hp hu0 (by omega) hf (by omega) (by omega) (by rw [hx0c]; exact hLc)
  have hex := txp_ex pre u (L ++ sg ++ t) p hpre hp
  have hpc : bt ((pre ++ ptd u p) ++ (L ++ sg ++ t)) (3 + u.size : Nat) = bt L 0 := by
    have e := hex 0 (by omega)
    rw [Nat.add_zero] at e
    rw [e]; exact hx0c
  have hbh : ∀ j, j < (sg ++ t).size → bt ((pre ++ ptd u p) ++ (L ++ sg ++ t)) (3 + u.size + 1 + j : Nat) = bt (sg ++ t) j := fun j hj => by
    have hj' : j < sg.size + t.size := by rwa [ByteArray.size_append] at hj
    have e := hex (1 + j) (by omega)
    rw [show 3 + u.size + 1 + j = 3 + u.size + (1 + j) by omega, e, ByteArray.append_assoc]
    have e2 := bt_right L (sg ++ t) j hj
    rwa [hL] at e2
  have hst : (sg ++ t).size = sg.size + t.size := ByteArray.size_append
  generalize hS : (pre ++ ptd u p) ++ (L ++ sg ++ t) = s at *
  refine ⟨by omega, by omega, by rw [hb0]; decide, by rw [hb0]; decide, ?_, by omega, hu, hx0, hx1, fun g W hg hr he hgw => ?_, fun g W hg hr he hgw => ?_⟩
  · rw [← hS]
    refine no47 (no47 ?_ (ptd47 hp hf)) (no47 (no47 ?_ ?_) ?_)
    · intro j hj
      rcases (by omega : j = 0 ∨ j = 1) with rfl | rfl
      · show bt pre 0 ≠ 47
        omega
      · show bt pre 1 ≠ 47
        omega
    · intro j hj
      obtain rfl : j = 0 := by omega
      show bt L 0 ≠ 47
      omega
    · rcases hE.way with ⟨rfl, _⟩ | ⟨rfl | rfl, _⟩
      · intro j hj
        obtain rfl : j = 0 := by have : (⟨#[45]⟩ : ByteArray).size = 1 := rfl
                                 omega
        decide
      · intro j hj
        obtain rfl : j = 0 := by have : (⟨#[43]⟩ : ByteArray).size = 1 := rfl
                                 omega
        decide
      · intro j hj
        have : (⟨#[]⟩ : ByteArray).size = 0 := rfl
        omega
    · intro j hj
      have := hE.fig j hj
      omega
  · rcases h1 with h1 | h1
    · exact scan_px _ g s u W hT hb0 (hb1.trans h1) pa hg hgw hr he
    · exact scan_py _ g s u W hT hb0 (hb1.trans h1) pa hg hgw hr he
  · obtain ⟨a, pr, hX, hSg, hpi⟩ := xe_of x sg t hE (3 + u.size) s (by omega) (by omega) hbh
    rcases hLc with hc | hc
    · exact xe_any x g (3 + u.size) a s t pr W hX (hpc.trans hc) hSg hpi pa hg hgw hr he
    · exact xe_anyP x g (3 + u.size) a s t pr W hX (hpc.trans hc) hSg hpi pa hg hgw hr he
end Go.Proofs.YtgpoplfgngiilaaGreatDoor

namespace Go.Proofs.YtgpoplfgngiilaaGreatDoor
open Go.RowKit Go.Proofs.YtgpoplfgngiilaaGreatDoorW.PrintWords PAll Pl

set_option maxHeartbeats 2000000 in
theorem pointed_any (t : ByteArray) (p : Nat) (hp : p < 20) (ht : t.size ≤ 1000) (w : World) :
    Calls Tryz.prog 16 #[.string t, .int .i64 p] w fun e w' => e = .returned (.string (ptd (zs (p - t.size) ++ t) p)) ∧ Below w.heap.size w w' := by
  have HT := Aside0.mk ht
  have HP := Aside0.mk hp
  obtain ⟨P, hP⟩ : ∃ P : Int, P = (p : Int) := ⟨_, rfl⟩
  rw [← hP]
  have hP0 : 0 ≤ P := by omega
  have hP1 : P < 20 := by omega
  have HPP := Aside0.mk hP
  clear ht hp hP
  go_enter Tryz.func16, Tryz.ntmps16
  go_wp2_with fail
  go_loopg [0] (p - t.size) (fun kq s W => ∃ (j : Nat) (S : ByteArray), s = .string S ∧ Aside0 (S = zs j ++ t) ∧ kq + j = p - t.size ∧ W = w)
  case atStart => exact ⟨0, t, rfl, ⟨(zs_zero t).symm⟩, rfl, rfl⟩
  case round =>
    obtain ⟨j, S, rfl, HS, hkq, rfl⟩ := hrel
    have hsz : S.size = j + t.size := by rw [HS.out, ByteArray.size_append, zs_size]
    have hs1 : (S.size : Int) ≤ 100000 := by have := HT.out; have := HP.out; omega
    by_cases hlt : (S.size : Int) < P
    · have hd : decide ((S.size : Int) < P) = true := decide_eq_true hlt
      have HL := Aside0.mk hlt
      have HSZ := Aside0.mk hsz
      have HKQ := Aside0.mk hkq
      clear hlt hsz hkq
      go_wp2_with fail
      obtain ⟨k, rfl⟩ : ∃ k, gk = k + 1 := ⟨gk - 1, by have := HKQ.out; have := HSZ.out; have := HL.out; have := HPP.out; omega⟩
      go_roundg k
      case rel => exact ⟨j + 1, _, rfl, ⟨by rw [HS.out, zs_succ]⟩, by have := HKQ.out; omega, rfl⟩
      case measure => omega
    · have hd : decide ((S.size : Int) < P) = false := decide_eq_false hlt
      have hge : P ≤ (S.size : Int) := by omega
      have HSZ := Aside0.mk hsz
      have HKQ := Aside0.mk hkq
      clear hlt hsz hkq
      go_wp2_with fail
      go_quiet (fail)
      go_wp2_with fail
      go_ret
      refine ⟨?_, pw_below_drewN (Below.refl _ _) _⟩
      have hj : j = p - t.size := by have := HSZ.out; have := HKQ.out; have := HPP.out; omega
      have he : ((S.size : Int) - P).toNat = S.size - p := by have := HPP.out; omega
      have hS := HS.out
      rw [hj] at hS
      rw [← hS]
      unfold ptd
      show Ending.returned (.string (S.extract 0 ((S.size : Int) - P).toNat ++ (⟨#[46]⟩ : ByteArray) ++ S.extract ((S.size : Int) - P).toNat S.size)) = _
      rw [he]
end Go.Proofs.YtgpoplfgngiilaaGreatDoor

namespace Go.Proofs.YtgpoplfgngiilaaGreatDoor.PAll
open Go.RowKit Go.Proofs.YtgpoplfgngiilaaGreatDoorW.PrintWords Go.Proofs.YtgpoplfgngiilaaGreatDoorW.PrintLast Go.Proofs.YtgpoplfgngiilaaGreatDoorW.PrintMore
attribute [local go_sem] max2_int min2_int max_two min_two max_three min_three max_four min_four   -- for this text's walks alone
/-! ### spec_Len: function 79 -/
def spec_Len.l0 : Nat → Int → Int → Option (Int)
  | 0, _, _ => none
  | k + 1, x3, x4 => if x4 > 0 then (spec_Len.l0 k (wrap64 (x3 + 1)) (wrap64 (Int.tdiv x4 2))) else (some x3)
def spec_Len.f (k : Nat) (l0 : List Int) : Option (Int) := if (l0.length : Int) = 0 then (some 0) else (if 0 ≤ (wrap64 ((l0.length : Int) - 1)) then (if (wrap64 ((l0.length : Int) - 1)) < (l0.length : Int) then (spec_Len.l0 k (wrap64 (16 * (wrap64 ((l0.length : Int) - 1)))) (rd l0 (wrap64 ((l0.length : Int) - 1)))) else (none)) else (none))
set_option maxHeartbeats 8000000 in
set_option maxRecDepth 100000 in
theorem spec_Len.calls (k : Nat) (A0 : Option Addr) (c0 : Nat) (l0 : List Int) (r : Int) (w : World) (hr0 : Kd.C (Kd.int .i64) w A0 l0.length l0) (hc0 : l0.length ≤ c0) (h : spec_Len.f k l0 = some r) :
    Calls Tryz.prog 79 #[.slice A0 l0.length c0] w fun e w' => e = .returned (.int .i64 r) ∧ Drawn0 w w' := by
  have HR0 := Aside0.mk hr0
  have HC0 := Aside0.mk hc0
  clear hr0 hc0
  have H : (if (l0.length : Int) = 0 then (some 0) else (if 0 ≤ (wrap64 ((l0.length : Int) - 1)) then (if (wrap64 ((l0.length : Int) - 1)) < (l0.length : Int) then (spec_Len.l0 k (wrap64 (16 * (wrap64 ((l0.length : Int) - 1)))) (rd l0 (wrap64 ((l0.length : Int) - 1)))) else (none)) else (none))) = some r := h
  clear h
  by_cases c2 : (l0.length : Int) = 0
  · rw [if_pos c2] at H
    have c2b0 : ((l0.length : Int) == 0) = true := beq_iff_eq.mpr c2
    have c2b1 : ((l0.length : Int) != 0) = false := bne_eq_false_iff_eq.mpr c2
    clear c2
    obtain rfl := Option.some.inj H
    go_enter Tryz.func79, Tryz.ntmps79
    go_wp2
    go_ret
    exact ⟨by first | rfl | (simp; done) | (simp [*]; done), by repeat (first | exact Drawn0.refl _ | apply Drawn0.step)⟩
  · rw [if_neg c2] at H
    have c2b0 : ((l0.length : Int) == 0) = false := beq_eq_false_iff_ne.mpr c2
    have c2b1 : ((l0.length : Int) != 0) = true := bne_iff_ne.mpr c2
    have c2b2 : ¬ (l0 = []) := fun h_ => c2 (by rw [h_]; rfl)
    obtain ⟨ji3, hji3⟩ : ∃ j_ : Int, (wrap64 ((l0.length : Int) - 1)) = j_ := ⟨_, rfl⟩
    replace H : (if 0 ≤ (ji3) then (if (ji3) < (l0.length : Int) then (spec_Len.l0 k (wrap64 (16 * (ji3))) (rd l0 (ji3))) else (none)) else (none)) = some r := by first | (rw [hji3] at H; exact H) | (simp only [hji3] at H ⊢; exact H)
    have hji3w : (IntKind.i64.wrap ((l0.length : Int) - 1)) = ji3 := (i64_w _).trans hji3
    by_cases c4 : 0 ≤ (ji3)
    · rw [if_pos c4] at H
      have c4b0 : decide (0 ≤ (ji3)) = true := decide_eq_true c4
      clear c4
      by_cases c5 : (ji3) < (l0.length : Int)
      · rw [if_pos c5] at H
        have c5b0 : decide ((ji3) < (l0.length : Int)) = true := decide_eq_true c5
        clear c5
        have H' := Aside0.mk H
        clear H
        have p415 : 0 ≤ ((ji3) : Int) := of_decide_eq_true (by first | (with_reducible assumption) | assumption)
        have q415 : (ji3) < (l0.length : Int) := of_decide_eq_true (by first | (with_reducible assumption) | assumption)
        obtain ⟨ad415, e415, hx415_0⟩ := Kd.at_int HR0.out (ji3) p415 q415
        cases e415
        replace p415 := eq_true p415
        replace q415 := eq_true q415
        go_enter Tryz.func79, Tryz.ntmps79
        go_wp2
        go_loopg [3, 4] k (fun kq v3 v4 w' => ∃ (x3_1 : Int) (x4_1 : Int), v3 = .int .i64 x3_1 ∧ v4 = .int .i64 x4_1 ∧ Aside0 (spec_Len.l0 kq x3_1 x4_1 = some r) ∧ Aside0 (kq ≤ k) ∧ Drawn0 w w')
        case atStart => exact ⟨(wrap64 (16 * (ji3))), (rd l0 (ji3)), (by first | rfl | (simp; done) | (simp only [← hji3] <;> (first | rfl | simp)) | (simp [*]; done)), (by first | rfl | (simp; done) | (simp only [← hji3] <;> (first | rfl | simp)) | (simp [*]; done)), H', ⟨Nat.le_refl _⟩, by repeat (first | exact Drawn0.refl _ | apply Drawn0.step)⟩
        case round =>
          clear H'
          try clear c2
          try clear c2b0
          try clear c2b1
          try clear c2b2
          try clear p2
          try clear c4
          try clear c4b0
          try clear p4
          try clear q4
          try clear hx4
          try clear c5
          try clear c5b0
          try clear hx415_0
          try clear p415
          try clear q415
          obtain ⟨x3_1, x4_1, rfl, rfl, HA, HK1, ⟨m1, rfl⟩⟩ := hrel
          cases gk with
          | zero => exact absurd HA.out (by simp [spec_Len.l0])
          | succ k1 =>
            have H := HA.out
            clear HA
            simp only [spec_Len.l0] at H
            by_cases c6 : x4_1 > 0
            · rw [if_pos c6] at H
              have c6b0 : decide (0 < x4_1) = true := decide_eq_true c6
              clear c6
              have H' := Aside0.mk H
              clear H
              go_wp2
              go_roundg k1
              case measure => have := HK1.out; omega
              case rel => exact ⟨(wrap64 (x3_1 + 1)), (wrap64 (Int.tdiv x4_1 2)), (by first | rfl | (simp; done) | (simp [*]; done)), (by first | rfl | (simp; done) | (simp [*]; done)), H', ⟨by have := HK1.out; omega⟩, by repeat (first | exact Drawn0.refl _ | apply Drawn0.step)⟩
            · rw [if_neg c6] at H
              have c6b0 : decide (0 < x4_1) = false := decide_eq_false c6
              clear c6
              obtain rfl := Option.some.inj H
              go_wp2
              go_ret
              exact ⟨by first | rfl | (simp; done) | (simp only [← hji3] <;> (first | rfl | simp)) | (simp [*]; done), by repeat (first | exact Drawn0.refl _ | apply Drawn0.step)⟩
      · rw [if_neg c5] at H
        exact absurd H (by simp)
    · rw [if_neg c4] at H
      exact absurd H (by simp)
/-! ### spec_Shl: function 80 -/
def spec_Shl.l0 : Nat → Int → List Int → List Int → Int → Int → Option (List Int)
  | 0, _, _, _, _, _ => none
  | k + 1, x1, x5, x19, x20, x21 => if x21 < x20 then (if 0 ≤ x21 then (if x21 < (x19.length : Int) then (if 0 ≤ (Int.tmod x1 16) then (if 0 ≤ (wrap64 ((wrap64 (Int.tdiv x1 16)) + x21)) then (if (wrap64 ((wrap64 (Int.tdiv x1 16)) + x21)) < (x5.length : Int) then (if 0 ≤ (wrap64 ((wrap64 ((wrap64 (Int.tdiv x1 16)) + x21)) + 1)) then (if (wrap64 ((wrap64 ((wrap64 (Int.tdiv x1 16)) + x21)) + 1)) < (x5.length : Int) then (spec_Shl.l0 k x1 ((x5.set ((wrap64 ((wrap64 (Int.tdiv x1 16)) + x21)) : Int).toNat (wrap64 ((rd x5 (wrap64 ((wrap64 (Int.tdiv x1 16)) + x21))) + (Int.tmod (shl .i64 (rd x19 x21) (Int.tmod x1 16)) 65536)))).set ((wrap64 ((wrap64 ((wrap64 (Int.tdiv x1 16)) + x21)) + 1)) : Int).toNat (wrap64 (Int.tdiv (shl .i64 (rd x19 x21) (Int.tmod x1 16)) 65536))) x19 x20 (wrap64 (x21 + 1))) else (none)) else (none)) else (none)) else (none)) else (none)) else (none)) else (none)) else ((spec_trim.f k x5).bind fun t423 => (some t423))
def spec_Shl.f (k : Nat) (l0 : List Int) (a1 : Int) : Option (List Int) := if (l0.length : Int) = 0 then (some l0) else (if 0 ≤ (wrap64 ((wrap64 ((wrap64 (Int.tdiv a1 16)) + (l0.length : Int))) + 1)) then (if (wrap64 ((wrap64 ((wrap64 (Int.tdiv a1 16)) + (l0.length : Int))) + 1) : Int).toNat ≤ 35184372088832 then (spec_Shl.l0 k a1 (List.replicate (wrap64 ((wrap64 ((wrap64 (Int.tdiv a1 16)) + (l0.length : Int))) + 1) : Int).toNat 0) l0 (l0.length : Int) 0) else (none)) else (none))
end Go.Proofs.YtgpoplfgngiilaaGreatDoor.PAll
