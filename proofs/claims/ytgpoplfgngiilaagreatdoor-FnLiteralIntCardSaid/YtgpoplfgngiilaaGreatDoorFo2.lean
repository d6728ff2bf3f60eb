/- Plain laws: the figures of a number, one underscore let in behind the first one, as ParseInt and scan read them. The eight forms of an integer literal: what ParseInt and scan answer at each. -/
import Derived.Test.YtgpoplfgngiilaaGreatDoorPz
import Derived.Test.YtgpoplfgngiilaaGreatDoorUo
import Derived.Test.YtgpoplfgngiilaaGreatDoorPh
import Derived.Test.YtgpoplfgngiilaaGreatDoorSc10
import Derived.Test.YtgpoplfgngiilaaGreatDoorSc8o
import Derived.Test.YtgpoplfgngiilaaGreatDoorSc8z
import Derived.Test.YtgpoplfgngiilaaGreatDoorSc2
import Derived.Test.YtgpoplfgngiilaaGreatDoorSc16x
import Derived.Test.YtgpoplfgngiilaaGreatDoorSc16u
set_option linter.unusedVariables false
set_option linter.unusedSimpArgs false
namespace Go.Proofs.YtgpoplfgngiilaaGreatDoor
open Go.RowKit Go.Proofs.YtgpoplfgngiilaaGreatDoorW.PrintWords PAll Pl

/-- Figures of V in base b, an underscore between two of them at most. -/
structure Ft (b V : Nat) (t : ByteArray) : Prop where
  pos : 0 < t.size
  size : t.size ≤ 1000
  fig : ∀ j : Nat, j < t.size → (bt t j = 95 ∧ 0 < j ∧ bt t (j - 1 : Nat) ≠ 95 ∧ j + 1 < t.size) ∨ (bt t j ≠ 95 ∧ isFig b (bt t j))
  val_ : pv b t t.size = V
  top : 0 < V → bt t 0 ≠ 48
  zero : V = 0 → t.size = 1 ∧ bt t 0 = 48

theorem tab_all : ∀ d : Fin 16, (((48 ≤ bt low d.val ∧ bt low d.val ≤ 57 ∨ 65 ≤ bt low d.val ∧ bt low d.val ≤ 70 ∨ 97 ≤ bt low d.val ∧ bt low d.val ≤ 102) ∧ dv (bt low d.val) = d.val ∧ (d.val ≠ 0 → bt low d.val ≠ 48)) ∧
    ((48 ≤ bt upp d.val ∧ bt upp d.val ≤ 57 ∨ 65 ≤ bt upp d.val ∧ bt upp d.val ≤ 70 ∨ 97 ≤ bt upp d.val ∧ bt upp d.val ≤ 102) ∧ dv (bt upp d.val) = d.val ∧ (d.val ≠ 0 → bt upp d.val ≠ 48))) ∧ bt low 0 = 48 ∧ bt upp 0 = 48 := by decide +kernel

theorem tab_at (up : Bool) (d : Nat) (hd : d < 16) : (48 ≤ bt (if up = true then upp else low) d ∧ bt (if up = true then upp else low) d ≤ 57 ∨ 65 ≤ bt (if up = true then upp else low) d ∧ bt (if up = true then upp else low) d ≤ 70 ∨ 97 ≤ bt (if up = true then upp else low) d ∧ bt (if up = true then upp else low) d ≤ 102) ∧ dv (bt (if up = true then upp else low) d) = d ∧ (d ≠ 0 → bt (if up = true then upp else low) d ≠ 48) := by
  have h := tab_all ⟨d, hd⟩
  cases up
  · exact h.1.1
  · exact h.1.2

theorem Ft.of_figs {b V : Nat} {up : Bool} {t : ByteArray} (hb : 2 ≤ b) (hb16 : b ≤ 16) (hF : Figs (if up = true then upp else low) b V t) (hlt : V < b ^ t.size) (hsz : V = 0 ∧ t.size = 1 ∨ 0 < t.size ∧ b ^ (t.size - 1) ≤ V) (hm : t.size ≤ 1000) : Ft b V t := by
  have hpos : 0 < t.size := by rcases hsz with h | h <;> omega
  have hdig : ∀ j : Nat, j < t.size → ∃ d, d < b ∧ d = V / b ^ (t.size - 1 - j) % b ∧ bt t j = bt (if up = true then upp else low) d := fun j hj => ⟨_, Nat.mod_lt _ (by omega), rfl, hF j hj⟩
  have hfig : ∀ j : Nat, j < t.size → bt t j ≠ 95 ∧ isFig b (bt t j) := by
    intro j hj
    obtain ⟨d, hd, _, hdt⟩ := hdig j hj
    have h := tab_at up d (by omega)
    rw [hdt]
    refine ⟨by have := h.1; omega, h.1, ?_⟩
    rw [h.2.1]
    omega
  have hval : ∀ k, k ≤ t.size → pv b t k = V / b ^ (t.size - k) := by
    intro k
    induction k with
    | zero =>
      intro _
      rw [Nat.sub_zero, Nat.div_eq_of_lt hlt]
      rfl
    | succ k ih =>
      intro hk
      rw [pv_fig b t k (hfig k (by omega)).1, ih (by omega)]
      obtain ⟨d, hd, hde, hdt⟩ := hdig k (by omega)
      have h := tab_at up d (by omega)
      rw [hdt, h.2.1, Int.toNat_natCast, hde]
      have e1 : t.size - k = (t.size - (k + 1)) + 1 := by omega
      have e2 : t.size - 1 - k = t.size - (k + 1) := by omega
      rw [e1, e2, Nat.pow_succ, ← Nat.div_div_eq_div_mul, Nat.mul_comm]
      exact Nat.div_add_mod _ _
  refine ⟨hpos, hm, fun j hj => .inr (hfig j hj), by rw [hval t.size (Nat.le_refl _), Nat.sub_self, Nat.pow_zero, Nat.div_one], fun hV => ?_, fun hV => ?_⟩
  · obtain ⟨d, hd, hde, hdt⟩ := hdig 0 hpos
    have h := tab_at up d (by omega)
    have hd0 : d ≠ 0 := by
      rw [hde]
      rw [Nat.sub_zero]
      have hle : b ^ (t.size - 1) ≤ V := by rcases hsz with h | h <;> omega
      have hq1 : 1 ≤ V / b ^ (t.size - 1) := (Nat.le_div_iff_mul_le (Nat.pow_pos (by omega))).2 (by omega)
      have hq2 : V / b ^ (t.size - 1) < b := by
        rw [Nat.div_lt_iff_lt_mul (Nat.pow_pos (by omega)), Nat.mul_comm, ← Nat.pow_succ, show (t.size - 1).succ = t.size by omega]
        exact hlt
      rw [Nat.mod_eq_of_lt hq2]
      omega
    have e : bt t 0 = bt (if up = true then upp else low) d := hdt
    rw [e]
    exact h.2.2 hd0
  · have hs1 : t.size = 1 := by
      rcases hsz with h | h
      · exact h.2
      · have h0 : b ^ (t.size - 1) ≤ 0 := by omega
        have := Nat.pow_pos (n := t.size - 1) (show 0 < b by omega)
        omega
    refine ⟨hs1, ?_⟩
    obtain ⟨d, hd, hde, hdt⟩ := hdig 0 hpos
    have hd0 : d = 0 := by rw [hde, hV, Nat.zero_div, Nat.zero_mod]
    have e : bt t 0 = bt (if up = true then upp else low) d := hdt
    rw [e, hd0]
    have h := tab_all ⟨0, by decide⟩
    cases up
    · exact h.2.1
    · exact h.2.2

/-- The underscore behind the first figure. -/
theorem Ft.under {b V : Nat} {t : ByteArray} (h : Ft b V t) (h2 : 2 ≤ t.size) (hn : ∀ j : Nat, j < t.size → bt t j ≠ 95) (hm : t.size + 1 ≤ 1000) : Ft b V ((t.extract 0 1 ++ (⟨#[95]⟩ : ByteArray)) ++ t.extract 1 t.size) := by
  have s1 : (t.extract 0 1).size = 1 := by rw [ByteArray.size_extract, Nat.min_eq_left (by omega)]
  have s2 : (t.extract 0 1 ++ (⟨#[95]⟩ : ByteArray)).size = 2 := by rw [ByteArray.size_append, s1]; rfl
  have s3 : (t.extract 1 t.size).size = t.size - 1 := by rw [ByteArray.size_extract, Nat.min_eq_left (Nat.le_refl _)]
  obtain ⟨u, hu⟩ : ∃ u, u = (t.extract 0 1 ++ (⟨#[95]⟩ : ByteArray)) ++ t.extract 1 t.size := ⟨_, rfl⟩
  have su : u.size = t.size + 1 := by rw [hu, ByteArray.size_append, s2, s3]; omega
  have b0 : bt u (0 : Nat) = bt t (0 : Nat) := by
    rw [hu, bt_left _ _ 0 (by omega), bt_left _ _ 0 (by omega), bt_ext t 0 1 0 (by omega) (by omega)]
  have b1 : bt u (1 : Nat) = 95 := by
    rw [hu, bt_left _ _ 1 (by omega)]
    have := bt_right (t.extract 0 1) (⟨#[95]⟩ : ByteArray) 0 (by decide)
    rw [s1] at this
    exact this
  have bj : ∀ j : Nat, 1 ≤ j → j < t.size → bt u (j + 1 : Nat) = bt t j := by
    intro j h1 hj
    have := bt_right (t.extract 0 1 ++ (⟨#[95]⟩ : ByteArray)) (t.extract 1 t.size) (j - 1) (by omega)
    rw [s2, show 2 + (j - 1) = j + 1 by omega, ← hu] at this
    rw [this, bt_ext t 1 t.size (j - 1) (by omega) (by omega), show 1 + (j - 1) = j by omega]
  have hpv : ∀ k, 1 ≤ k → k ≤ t.size → pv b u (k + 1) = pv b t k := by
    intro k h1
    induction k with
    | zero => omega
    | succ k ih =>
      intro hk
      rcases Nat.eq_zero_or_pos k with h0 | hp
      · subst h0
        have n0 := hn 0 (by omega)
        rw [pv_und b u 1 b1, pv_fig b u 0 (by rw [b0]; exact n0), pv_fig b t 0 n0, b0]
        rfl
      · have nk := hn k (by omega)
        rw [pv_fig b u (k + 1) (by rw [bj k hp (by omega)]; exact nk), bj k hp (by omega), ih hp (by omega), pv_fig b t k nk]
  rw [← hu]
  refine ⟨by omega, by omega, fun j hj => ?_, by rw [su, hpv t.size (by omega) (Nat.le_refl _)]; exact h.val_, fun hV => ?_, fun hV => ?_⟩
  · rcases (by omega : j = 0 ∨ j = 1 ∨ 2 ≤ j) with h0 | h0 | h0
    · subst h0
      rw [b0]
      rcases h.fig 0 (by omega) with hf | hf
      · omega
      · exact .inr hf
    · subst h0
      left
      refine ⟨b1, by omega, ?_, by omega⟩
      rw [show (1 - 1 : Nat) = 0 from rfl, b0]
      exact hn 0 (by omega)
    · obtain ⟨i, rfl⟩ : ∃ i, j = i + 1 := ⟨j - 1, by omega⟩
      rw [bj i (by omega) (by omega)]
      rcases h.fig i (by omega) with hf | hf
      · exact absurd hf.1 (hn i (by omega))
      · exact .inr hf
  · have := h.top hV
    have e : bt u 0 = bt t 0 := b0
    rw [e]; exact this
  · have := (h.zero hV).1
    omega

theorem Ft.first {b V : Nat} {t : ByteArray} (h : Ft b V t) : isFig b (bt t 0) := by
  rcases h.fig 0 h.pos with hf | hf
  · omega
  · exact hf.2
theorem Ft.tx {b V : Nat} {p t : ByteArray} (h : Ft b V t) (hV : 0 < V) (hp : p.size ≤ 10) : Tx b p.size (p ++ t) t where
  size := by rw [ByteArray.size_append]; have := h.size; omega
  at_ := fun j hj => bt_right p t j hj
  len := ByteArray.size_append
  pos := h.pos
  fig0 := ⟨h.first, h.top hV⟩
  fig := h.fig
theorem Ft.fig' {b V : Nat} {t : ByteArray} (h : Ft b V t) (j : Nat) (hj : j < t.size) : bt t j = 95 ∨ isFig b (bt t j) := by
  rcases h.fig j hj with h | h
  · exact .inl h.1
  · exact .inr h.2
theorem Ft.last {b V : Nat} {t : ByteArray} (h : Ft b V t) : bt t (t.size - 1 : Nat) ≠ 95 := by
  have hp := h.pos
  rcases h.fig (t.size - 1) (by omega) with h1 | h1
  · omega
  · exact h1.1

/-- What underscoreOK asks, behind a prefix. -/
theorem Ft.saw {b V : Nat} {p t : ByteArray} (h : Ft b V t) (s0 : Int) (j : Nat) (h1 : p.size ≤ j) (h2 : j < (p ++ t).size) : (bt (p ++ t) j = 95 ∧ sawAt (p ++ t) p.size s0 j = 48) ∨ isFig b (bt (p ++ t) j) := by
  obtain ⟨i, rfl⟩ : ∃ i, j = p.size + i := ⟨j - p.size, by omega⟩
  rw [ByteArray.size_append] at h2
  rw [bt_right p t i (by omega)]
  rcases h.fig i (by omega) with ⟨e, hi, hn, _⟩ | hf
  · refine .inl ⟨e, ?_⟩
    unfold sawAt
    rw [if_neg (by omega), show p.size + i - 1 = p.size + (i - 1) by omega, bt_right p t (i - 1) (by omega), if_neg hn]
  · exact .inr hf.2
theorem Ft.saw_last {b V : Nat} {p t : ByteArray} (h : Ft b V t) (s0 : Int) : sawAt (p ++ t) p.size s0 (p ++ t).size ≠ 95 := by
  have hp := h.pos
  unfold sawAt
  rw [ByteArray.size_append, if_neg (by omega), show p.size + t.size - 1 = p.size + (t.size - 1) by omega, bt_right p t (t.size - 1) (by omega), if_neg h.last]
  decide
theorem ext_of (p t : ByteArray) (m : Nat) (hm : p.size = m) : t = (p ++ t).extract m (p ++ t).size := by
  subst hm
  rw [ByteArray.size_append]
  apply ByteArray.ext
  rw [ByteArray.data_extract, ByteArray.data_append]
  apply Array.ext_getElem?
  intro i
  rw [Array.getElem?_extract]
  have e1 : (p.data ++ t.data).size = p.size + t.size := by rw [Array.size_append]; rfl
  rw [e1, Nat.min_self]
  by_cases h : i < p.size + t.size - p.size
  · rw [if_pos h, Array.getElem?_append_right (by show p.data.size ≤ _; have : p.data.size = p.size := rfl; omega)]
    congr 1
    have : p.data.size = p.size := rfl
    omega
  · rw [if_neg h, Array.getElem?_eq_none (by have : t.data.size = t.size := rfl; omega)]
end Go.Proofs.YtgpoplfgngiilaaGreatDoor

namespace Go.Proofs.YtgpoplfgngiilaaGreatDoor
open Go.RowKit Go.Proofs.YtgpoplfgngiilaaGreatDoorW.PrintWords PAll Pl

/-- A text that is read as V. -/
structure FormOk (b V : Nat) (s : ByteArray) : Prop where
  pos : 0 < s.size
  size : s.size ≤ 100000
  h45 : bt s 0 ≠ 45
  h43 : bt s 0 ≠ 43
  ps : ∀ (w : World) (ev : Value), w.cell? ⟨2, 0, none⟩ = some ev → (ev = .nilIface ∨ ∃ te pe, ev = .iface te pe) → Calls Tryz.prog 43 #[.string s, .int .i64 0, .int .i64 64] w (PsOk V w)
  sc : 9223372036854775808 ≤ V → ∀ pa, ScanAt b V s pa

theorem form_of {b V : Nat} {s : ByteArray} (pos : 0 < s.size) (size : s.size ≤ 100000) (h45 : bt s 0 ≠ 45) (h43 : bt s 0 ≠ 43) (hp : ∀ w, Calls Tryz.prog 98 #[.string s, .int .i64 0, .int .i64 64] w (PuOk V w)) (sc : 9223372036854775808 ≤ V → ∀ pa, ScanAt b V s pa) : FormOk b V s :=
  ⟨pos, size, h45, h43, fun w ev h1 h2 => sparse_any s V ev w size h1 h2 (pint_any s V w pos h45 h43 (hp w)), sc⟩

theorem first_not {b V : Nat} {t : ByteArray} (h : Ft b V t) : bt t 0 ≠ 45 ∧ bt t 0 ≠ 43 := by
  have := h.first.1
  omega
theorem fig_dig {c : Int} (h : isFig 10 c) : 48 ≤ c ∧ c ≤ 57 := fig_low10 h.1 h.2
theorem fig_dig8 {c : Int} (h : isFig 8 c) : 48 ≤ c ∧ c ≤ 57 := by have := fig_low8 h.1 h.2; omega
theorem fig_dig2 {c : Int} (h : isFig 2 c) : 48 ≤ c ∧ c ≤ 57 := by have := fig_low2 h.1 h.2; omega
theorem orLeft {p q r : Prop} (h : p ∨ q) (f : q → r) : p ∨ r := h.elim .inl (fun x => .inr (f x))

theorem form_10 {V : Nat} {t : ByteArray} (h : Ft 10 V t) : FormOk 10 V t := by
  have hs := h.size
  have hf := first_not h
  have e0 : (⟨#[]⟩ : ByteArray) ++ t = t := ByteArray.ext (by simp)
  refine form_of h.pos (by omega) hf.1 hf.2 (fun w => ?_) (fun hV pa g W hg hgw hr hev => ?_)
  · have hsaw : ∀ (s0 : Int) (j : Nat), 0 ≤ j → j < t.size → (bt t j = 95 ∧ sawAt t 0 s0 j = 48) ∨ (48 ≤ bt t j ∧ bt t j ≤ 57) := fun s0 j h1 h2 => by
      have := h.saw (p := ⟨#[]⟩) s0 j (Nat.zero_le _) (by rw [e0]; exact h2)
      rw [e0] at this
      exact orLeft this fig_dig
    have hlast : ∀ s0 : Int, sawAt t 0 s0 t.size ≠ 95 := fun s0 => by
      have := h.saw_last (p := ⟨#[]⟩) s0
      rwa [e0] at this
    by_cases h0 : V = 0
    · obtain ⟨h1, h2⟩ := h.zero h0
      subst h0
      have hx : t.extract 1 t.size = ⟨#[]⟩ := by
        apply ByteArray.ext
        apply Array.eq_empty_of_size_eq_zero
        show (t.extract 1 t.size).size = 0
        rw [ByteArray.size_extract, h1]
        rfl
      have hp := pu_8s t w h.pos (by omega) (by omega) h2 (t.extract 1 t.size) rfl (fun j hj => by rw [hx] at hj; exact absurd hj (Nat.not_lt_zero _)) (fun W => uo_8s t W h.pos (by omega) h1 h2 hf.1 hf.2 (hsaw 94) (hlast 94))
      rw [hx] at hp
      exact hp
    · have hp := pu_10 t w h.pos (by omega) (h.top (by omega)) t rfl (fun j hj => h.fig' j hj) (fun W => uo_10 t W h.pos (by omega) (h.top (by omega)) hf.1 hf.2 (hsaw 94) (hlast 94))
      rw [h.val_] at hp
      exact hp
  · have hT := h.tx (p := ⟨#[]⟩) (by omega) (by decide)
    rw [e0] at hT
    have := scan_10 g t t pa W hT hg hgw hr hev
    rwa [h.val_] at this

theorem pre_at {p t : ByteArray} (j : Nat) (hj : j < p.size) : bt (p ++ t) j = bt p j := bt_left p t j hj

theorem form_x (c : UInt8) (hc : c = 120 ∨ c = 88) {V : Nat} {t : ByteArray} (h : Ft 16 V t) : FormOk 16 V ((⟨#[48, c]⟩ : ByteArray) ++ t) := by
  have hs := h.size
  have hp0 := h.pos
  have hz : ((⟨#[48, c]⟩ : ByteArray) ++ t).size = 2 + t.size := ByteArray.size_append
  have c0 : bt ((⟨#[48, c]⟩ : ByteArray) ++ t) 0 = 48 := bt_left (⟨#[48, c]⟩ : ByteArray) t 0 (by show 0 < 2; omega)
  have c1 : bt ((⟨#[48, c]⟩ : ByteArray) ++ t) 1 = c.toNat := bt_left (⟨#[48, c]⟩ : ByteArray) t 1 (by show 1 < 2; omega)
  have c2 : bt ((⟨#[48, c]⟩ : ByteArray) ++ t) 1 = 120 ∨ bt ((⟨#[48, c]⟩ : ByteArray) ++ t) 1 = 88 := by rw [c1]; rcases hc with rfl | rfl <;> first | exact .inl rfl | exact .inr rfl
  refine form_of (by omega) (by omega) (by rw [c0]; decide) (by rw [c0]; decide) (fun w => ?_) (fun hV pa g W hg hgw hr hev => ?_)
  · have hp := pu_x _ w (by omega) (by omega) (by omega) c0 c2 t (ext_of _ t 2 rfl) (fun j hj => h.fig' j hj) (fun W => uo_x _ W (by omega) (by omega) (by omega) c0 c2 (by rw [c0]; decide) (by rw [c0]; decide) (fun j h1 h2 => orLeft (h.saw 48 j h1 h2) (fun x => x.1)) (h.saw_last 48))
    rw [h.val_] at hp
    exact hp
  · have hT := h.tx (p := ⟨#[48, c]⟩) (by omega) (by show 2 ≤ 10; omega)
    rcases hc with rfl | rfl
    · have := scan_16x g _ t pa W hT c0 c1 hg hgw hr hev
      rwa [h.val_] at this
    · have := scan_16u g _ t pa W hT c0 c1 hg hgw hr hev
      rwa [h.val_] at this

theorem form_b (c : UInt8) (hc : c = 98 ∨ c = 66) {V : Nat} {t : ByteArray} (h : Ft 2 V t) : FormOk 2 V ((⟨#[48, c]⟩ : ByteArray) ++ t) := by
  have hs := h.size
  have hp0 := h.pos
  have hz : ((⟨#[48, c]⟩ : ByteArray) ++ t).size = 2 + t.size := ByteArray.size_append
  have c0 : bt ((⟨#[48, c]⟩ : ByteArray) ++ t) 0 = 48 := bt_left (⟨#[48, c]⟩ : ByteArray) t 0 (by show 0 < 2; omega)
  have c1 : bt ((⟨#[48, c]⟩ : ByteArray) ++ t) 1 = c.toNat := bt_left (⟨#[48, c]⟩ : ByteArray) t 1 (by show 1 < 2; omega)
  have c2 : bt ((⟨#[48, c]⟩ : ByteArray) ++ t) 1 = 98 ∨ bt ((⟨#[48, c]⟩ : ByteArray) ++ t) 1 = 66 := by rw [c1]; rcases hc with rfl | rfl <;> first | exact .inl rfl | exact .inr rfl
  refine form_of (by omega) (by omega) (by rw [c0]; decide) (by rw [c0]; decide) (fun w => ?_) (fun hV pa g W hg hgw hr hev => ?_)
  · have hp := pu_b _ w (by omega) (by omega) (by omega) c0 c2 t (ext_of _ t 2 rfl) (fun j hj => h.fig' j hj) (fun W => uo_b _ W (by omega) (by omega) (by omega) c0 c2 (by rw [c0]; decide) (by rw [c0]; decide) (fun j h1 h2 => orLeft (h.saw 48 j h1 h2) fig_dig2) (h.saw_last 48))
    rw [h.val_] at hp
    exact hp
  · have hT := h.tx (p := ⟨#[48, c]⟩) (by omega) (by show 2 ≤ 10; omega)
    have := scan_2 g _ t pa W hT c0 c2 hg hgw hr hev
    rwa [h.val_] at this

theorem form_o (c : UInt8) (hc : c = 111 ∨ c = 79) {V : Nat} {t : ByteArray} (h : Ft 8 V t) : FormOk 8 V ((⟨#[48, c]⟩ : ByteArray) ++ t) := by
  have hs := h.size
  have hp0 := h.pos
  have hz : ((⟨#[48, c]⟩ : ByteArray) ++ t).size = 2 + t.size := ByteArray.size_append
  have c0 : bt ((⟨#[48, c]⟩ : ByteArray) ++ t) 0 = 48 := bt_left (⟨#[48, c]⟩ : ByteArray) t 0 (by show 0 < 2; omega)
  have c1 : bt ((⟨#[48, c]⟩ : ByteArray) ++ t) 1 = c.toNat := bt_left (⟨#[48, c]⟩ : ByteArray) t 1 (by show 1 < 2; omega)
  have c2 : bt ((⟨#[48, c]⟩ : ByteArray) ++ t) 1 = 111 ∨ bt ((⟨#[48, c]⟩ : ByteArray) ++ t) 1 = 79 := by rw [c1]; rcases hc with rfl | rfl <;> first | exact .inl rfl | exact .inr rfl
  refine form_of (by omega) (by omega) (by rw [c0]; decide) (by rw [c0]; decide) (fun w => ?_) (fun hV pa g W hg hgw hr hev => ?_)
  · have hp := pu_o _ w (by omega) (by omega) (by omega) c0 c2 t (ext_of _ t 2 rfl) (fun j hj => h.fig' j hj) (fun W => uo_o _ W (by omega) (by omega) (by omega) c0 c2 (by rw [c0]; decide) (by rw [c0]; decide) (fun j h1 h2 => orLeft (h.saw 48 j h1 h2) fig_dig8) (h.saw_last 48))
    rw [h.val_] at hp
    exact hp
  · have hT := h.tx (p := ⟨#[48, c]⟩) (by omega) (by show 2 ≤ 10; omega)
    have := scan_8o g _ t pa W hT c0 c2 hg hgw hr hev
    rwa [h.val_] at this

theorem form_z {V : Nat} {t : ByteArray} (h : Ft 8 V t) : FormOk 8 V ((⟨#[48]⟩ : ByteArray) ++ t) := by
  have hs := h.size
  have hp0 := h.pos
  have hz : ((⟨#[48]⟩ : ByteArray) ++ t).size = 1 + t.size := ByteArray.size_append
  have c0 : bt ((⟨#[48]⟩ : ByteArray) ++ t) 0 = 48 := bt_left (⟨#[48]⟩ : ByteArray) t 0 (by show 0 < 1; omega)
  have c1 : bt ((⟨#[48]⟩ : ByteArray) ++ t) 1 = bt t 0 := bt_right (⟨#[48]⟩ : ByteArray) t 0 hp0
  have hf1 : 48 ≤ bt ((⟨#[48]⟩ : ByteArray) ++ t) 1 ∧ bt ((⟨#[48]⟩ : ByteArray) ++ t) 1 ≤ 57 := by rw [c1]; exact fig_dig8 h.first
  refine form_of (by omega) (by omega) (by rw [c0]; decide) (by rw [c0]; decide) (fun w => ?_) (fun hV pa g W hg hgw hr hev => ?_)
  · have hu : ∀ W, Calls Tryz.prog 141 #[.string ((⟨#[48]⟩ : ByteArray) ++ t)] W fun e w' => e = .returned (.bool true) ∧ Below W.heap.size W w' := fun W => by
      refine uo_8l _ W (by omega) (by omega) (by omega) c0 hf1 (by rw [c0]; decide) (by rw [c0]; decide) (fun j _ h2 => ?_) ?_
      · rcases Nat.eq_zero_or_pos j with h0 | hp
        · subst h0
          right
          have e : bt ((⟨#[48]⟩ : ByteArray) ++ t) (0 : Nat) = 48 := c0
          rw [e]; omega
        · rcases h.saw (p := ⟨#[48]⟩) 48 j hp h2 with ⟨e1, e2⟩ | hf
          · refine .inl ⟨e1, ?_⟩
            unfold sawAt at e2 ⊢
            rw [if_neg (by omega)]
            rcases (by omega : j = 1 ∨ 1 < j) with h1 | h1
            · subst h1
              have e : bt ((⟨#[48]⟩ : ByteArray) ++ t) ((1 - 1 : Nat) : Nat) = 48 := c0
              rw [if_neg (by rw [e]; decide)]
            · rw [if_neg (by show ¬ j = 1; omega)] at e2
              exact e2
          · exact .inr (fig_dig8 hf)
      · have := h.saw_last (p := ⟨#[48]⟩) 94
        unfold sawAt at this ⊢
        rw [if_neg (by omega)]
        rw [if_neg (by show ¬ _ = 1; omega)] at this
        exact this
    by_cases h3 : 3 ≤ ((⟨#[48]⟩ : ByteArray) ++ t).size
    · have hp := pu_8l _ w (by omega) (by omega) h3 c0 hf1 t (ext_of _ t 1 rfl) (fun j hj => h.fig' j hj) hu
      rw [h.val_] at hp
      exact hp
    · have hp := pu_8s _ w (by omega) (by omega) (by omega) c0 t (ext_of _ t 1 rfl) (fun j hj => h.fig' j hj) hu
      rw [h.val_] at hp
      exact hp
  · have hT := h.tx (p := ⟨#[48]⟩) (by omega) (by show 1 ≤ 10; omega)
    have := scan_8z g _ t pa W hT c0 hg hgw hr hev
    rwa [h.val_] at this
end Go.Proofs.YtgpoplfgngiilaaGreatDoor
