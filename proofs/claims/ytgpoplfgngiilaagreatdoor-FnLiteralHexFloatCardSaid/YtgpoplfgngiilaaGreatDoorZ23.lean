/- Plain laws over the printed functions of spec: Mul, Power, Len answer the figures of the product, of the power, and the number of bits. Functions of the program as Lean functions, and that the Go code comes to their answers (the kit's print.py wrote it; cut into this file by pieces.py; two lines 'hji28' put in by hand): spec_Bit. Plain laws over the printed functions of spec: Shl and Bit answer the figures of the number times a power of 2, and of that power. Contracts of spec's functions on numbers that are told by their figures: Mul, Add, Sub, Power, Len, Cmp, byDigit, Small, Bit: the slices that come in are only read. -/
import Derived.Test.YtgpoplfgngiilaaGreatDoorZ03
import Derived.Test.YtgpoplfgngiilaaGreatDoorZ06
import Derived.Test.YtgpoplfgngiilaaGreatDoorZ22
set_option linter.unusedVariables false
set_option linter.unusedSimpArgs false
namespace Go.Proofs.YtgpoplfgngiilaaGreatDoor.Pl
open Go.RowKit Go.Proofs.YtgpoplfgngiilaaGreatDoorW.PrintWords Go.Proofs.YtgpoplfgngiilaaGreatDoorW.PrintLast Go.Proofs.YtgpoplfgngiilaaGreatDoorW.PrintMore PAll

/-! Mul -/
theorem mul_lid (x y o c : Int) (hx : 0 ≤ x ∧ x < 65536) (hy : 0 ≤ y ∧ y < 65536) (ho : 0 ≤ o ∧ o < 65536) (hc : 0 ≤ c ∧ c < 65536) : 0 ≤ x * y ∧ x * y ≤ 4294836225 ∧ 0 ≤ c + (o + x * y) ∧ c + (o + x * y) < 4294967296 := by
  have h0 : 0 ≤ x * y := Int.mul_nonneg hx.1 hy.1
  have h1 : x * y ≤ 65535 * 65535 := Int.mul_le_mul (by omega) (by omega) hy.1 (by omega)
  refine ⟨h0, by omega, by omega, by omega⟩
theorem mul_w (x y o c : Int) (p q : Nat) (hx : 0 ≤ x ∧ x < 65536) (hy : 0 ≤ y ∧ y < 65536) (ho : 0 ≤ o ∧ o < 65536) (hc : 0 ≤ c ∧ c < 65536) (hp : p < 1000000000000) (hq : q < 1000000000000) :
    wrap64 ((p : Int) + q) = ((p + q : Nat) : Int) ∧ wrap64 (x * y) = x * y ∧ wrap64 (o + x * y) = o + x * y ∧ wrap64 (c + (o + x * y)) = c + (o + x * y) ∧
    Int.tmod (c + (o + x * y)) 65536 = (c + (o + x * y)) % 65536 ∧ wrap64 (Int.tdiv (c + (o + x * y)) 65536) = (c + (o + x * y)) / 65536 ∧ wrap64 ((q : Int) + 1) = ((q + 1 : Nat) : Int) := by
  obtain ⟨a, b, d, e⟩ := mul_lid x y o c hx hy ho hc
  generalize x * y = z at *
  refine ⟨w64' (by omega) (by omega) (by omega), w64 (by omega) (by omega), w64 (by omega) (by omega), w64 (by omega) (by omega), Int.tmod_eq_emod_of_nonneg d, ?_, w64' (by omega) (by omega) (by omega)⟩
  rw [Int.tdiv_eq_ediv_of_nonneg d]
  exact w64 (by omega) (by omega)
theorem mul_lid2 (x y o c : Int) (hx : 0 ≤ x ∧ x < 65536) (hy : 0 ≤ y ∧ y < 65536) (ho : 0 ≤ o ∧ o < 65536) (hc : 0 ≤ c ∧ c < 65536) :
    (0 ≤ (c + (o + x * y)) % 65536 ∧ (c + (o + x * y)) % 65536 < 65536) ∧ 0 ≤ (c + (o + x * y)) / 65536 ∧ (c + (o + x * y)) / 65536 < 65536 ∧ (c + (o + x * y)) % 65536 = c + (o + x * y) - 65536 * ((c + (o + x * y)) / 65536) := by
  obtain ⟨a, b, d, e⟩ := mul_lid x y o c hx hy ho hc
  generalize x * y = z at *
  refine ⟨⟨by omega, by omega⟩, by omega, by omega, by omega⟩
theorem getD_set_ne (xs : List Int) (i j : Nat) (y : Int) (h : i ≠ j) : (xs.set i y).getD j 0 = xs.getD j 0 := by
  rw [List.getD_eq_getElem?_getD, List.getElem?_set_ne h, ← List.getD_eq_getElem?_getD]

theorem mul_inner (xs ys : List Int) (hy : Dg (65536 : Nat) ys) (hm : xs.length < 100000000000) (hm2 : ys.length < 100000000000) (i : Nat) (hi : i < xs.length) (x : Int) (hx : 0 ≤ x ∧ x < 65536) (V R : Int → List Int) (r : List Int) (T : Int)
    (next : ∀ out : List Int, out.length = xs.length + ys.length → Dg (65536 : Nat) out → (∀ t, i + 1 + ys.length ≤ t → out.getD t 0 = 0) → val (65536 : Nat) out = T + x * (65536 : Nat) ^ i * val (65536 : Nat) ys → Ev (fun k => spec_Mul.l0 k ys out xs xs.length ((i + 1 : Nat) : Int)) r) :
    ∀ (j p : Nat) (out : List Int) (c n : Int), p + j = ys.length → n = p → out.length = xs.length + ys.length → Dg (65536 : Nat) out → 0 ≤ c → c < 65536 → (∀ t, i + ys.length ≤ t → out.getD t 0 = 0) →
    Aside0 (val (65536 : Nat) out + c * (65536 : Nat) ^ (i + p) = T + x * (65536 : Nat) ^ i * val (65536 : Nat) (ys.take p)) →
    Ev (fun k => spec_Mul.l1 k ys out i x c xs xs.length i ys ys.length n) r
  | 0, p, out, c, n, hp, hn, hl, ho, hc0, hc1, hz, hv => by
    have hpy : p = ys.length := by omega
    subst hpy hn
    have hs : (out.set (i + ys.length) c).length = xs.length + ys.length := by rw [List.length_set]; exact hl
    have w1 : wrap64 ((i : Int) + ys.length) = ((i + ys.length : Nat) : Int) := w64' (by omega) (by omega) (by omega)
    have w2 : wrap64 ((i : Int) + 1) = ((i + 1 : Nat) : Int) := w64' (by omega) (by omega) (by omega)
    have h := next (out.set (i + ys.length) c) hs (Dg_set ho _ ⟨hc0, hc1⟩) (fun t ht => by rw [getD_set_ne _ _ _ _ (by omega)]; exact hz t (by omega)) (by
      rw [val_set _ _ _ (by omega), hz _ (Nat.le_refl _), Int.sub_zero]; have hv := hv.out; rw [List.take_length] at hv; exact hv)
    refine Ev.step (fun k => ?_) h
    simp only [spec_Mul.l1]
    rw [w1, w2, Int.toNat_natCast]
    clear w1 w2
    rw [if_neg (by omega), if_pos (by omega), if_pos (by omega)]
  | j + 1, p, out, c, n, hp, hn, hl, ho, hc0, hc1, hz, hv => by
    subst hn
    have gy := Dg_get (by decide) hy p
    have go := Dg_get (by decide) ho (i + p)
    have ry : rd ys (p : Int) = ys.getD p 0 := rfl
    have ro : rd out ((i + p : Nat) : Int) = out.getD (i + p) 0 := rfl
    obtain ⟨z0, z1, z2, z3⟩ := mul_lid2 x (ys.getD p 0) (out.getD (i + p) 0) c hx gy go ⟨hc0, hc1⟩
    have hip : i + p < out.length := by clear z0 z1 z2 z3 gy go; omega
    have hpj : p + 1 + j = ys.length := by clear z0 z1 z2 z3 gy go; omega
    have hfar : ∀ t, i + ys.length ≤ t → i + p ≠ t := by clear z0 z1 z2 z3 gy go; intro t ht; omega
    have ih := mul_inner xs ys hy hm hm2 i hi x hx V R r T next j (p + 1) (out.set (i + p) ((c + (out.getD (i + p) 0 + x * ys.getD p 0)) % 65536)) ((c + (out.getD (i + p) 0 + x * ys.getD p 0)) / 65536) _ hpj rfl (by rw [List.length_set]; exact hl)
      (Dg_set ho _ z0) z1 z2 (fun t ht => by rw [getD_set_ne _ _ _ _ (hfar t ht)]; exact hz t ht) ⟨by
        have hv := hv.out
        have vy := val_take_succ (65536 : Nat) ys p
        rw [val_set _ _ _ hip, vy, ← Nat.add_assoc, Int.pow_succ, Int.pow_add]
        rw [Int.pow_add] at hv
        rw [z3]
        clear z0 z1 z2 z3 hip hpj hfar vy
        have e65 : ((65536 : Nat) : Int) = 65536 := rfl
        rw [e65] at hv ⊢
        generalize (c + (out.getD (i + p) 0 + x * ys.getD p 0)) / 65536 = q
        clear gy go hz next ry ro hx ho hc0 hc1 hp
        generalize (65536 : Int) ^ i = P at *
        generalize (65536 : Int) ^ p = Q at *
        generalize val 65536 out = V at *
        generalize val 65536 (ys.take p) = W at *
        generalize ys.getD p 0 = y at *
        generalize out.getD (i + p) 0 = o at *
        grind⟩
    have hi4 : i < 1000000000000 := by clear z0 z1 z2 z3 gy go; omega
    have hp4 : p < 1000000000000 := by clear z0 z1 z2 z3 gy go; omega
    refine Ev.step (fun k => ?_) ih
    simp only [spec_Mul.l1]
    obtain ⟨w1, w2, w3, w4, w5, w6, w7⟩ := mul_w x (ys.getD p 0) (out.getD (i + p) 0) c i p hx gy go ⟨hc0, hc1⟩ hi4 hp4
    rw [w1, ry, ro, w2, w3, w4, w5, w6, w7, Int.toNat_natCast]
    clear w1 w2 w3 w4 w5 w6 w7 z0 z1 z2 z3 gy go
    rw [if_pos (by omega), if_pos (by omega), if_pos (by omega), if_pos (by omega), if_pos (by omega)]

theorem mul_outer (xs ys : List Int) (hx : Dg (65536 : Nat) xs) (hy : Dg (65536 : Nat) ys) (hm : xs.length < 100000000000) (hm2 : ys.length < 100000000000) :
    ∀ (j i : Nat) (out : List Int) (n : Int), i + j = xs.length → n = i → out.length = xs.length + ys.length → Dg (65536 : Nat) out → (∀ t, i + ys.length ≤ t → out.getD t 0 = 0) →
    Aside0 (val (65536 : Nat) out = val (65536 : Nat) (xs.take i) * val (65536 : Nat) ys) →
    Ev (fun k => spec_Mul.l0 k ys out xs xs.length n) (figs 65536 (val (65536 : Nat) xs * val (65536 : Nat) ys).toNat)
  | 0, i, out, n, hij, hn, hl, ho, hz, hv => by
    have hi : i = xs.length := by omega
    subst hi hn
    have ht := trim_f out (by omega) ho
    have hv := hv.out
    rw [List.take_length] at hv
    rw [hv] at ht
    clear hv
    refine Ev.step (f := fun k => (spec_trim.f k out).bind fun t => some t) (fun k => ?_) (Ev.bind ht (Ev.now _))
    simp only [spec_Mul.l0]
    rw [if_neg (by omega)]
  | j + 1, i, out, n, hij, hn, hl, ho, hz, hv => by
    subst hn
    have gx := Dg_get (by decide) hx i
    have rx : rd xs (i : Int) = xs.getD i 0 := rfl
    have hi4 : i < xs.length := by omega
    have hij' : i + 1 + j = xs.length := by omega
    have h := mul_inner xs ys hy hm hm2 i hi4 (xs.getD i 0) gx (fun _ => []) (fun _ => []) _ (val (65536 : Nat) (xs.take i) * val (65536 : Nat) ys)
      (fun out' hl' ho' hz' hv' => mul_outer xs ys hx hy hm hm2 j (i + 1) out' _ hij' rfl hl' ho' hz' ⟨by rw [hv', val_take_succ, Int.add_mul]⟩)
      ys.length 0 out 0 0 (Nat.zero_add _) rfl hl ho (Int.le_refl _) (by decide) hz ⟨by rw [hv.out]; simp [val]⟩
    refine Ev.step (fun k => ?_) h
    simp only [spec_Mul.l0]
    rw [rx]
    rw [if_pos (by omega), if_pos (by omega), if_pos (by omega)]

theorem mul_f (a b : Nat) (hm : (figs 65536 a).length < 1000000000) (hm2 : (figs 65536 b).length < 1000000000) : Ev (fun k => spec_Mul.f k (figs 65536 a) (figs 65536 b)) (figs 65536 (a * b)) := by
  have h := mul_outer (figs 65536 a) (figs 65536 b) (figs_Dg (by omega) a) (figs_Dg (by omega) b) (by omega) (by omega) (figs 65536 a).length 0 (List.replicate ((figs 65536 a).length + (figs 65536 b).length) 0) 0 (by omega) rfl (by simp)
    (fun x hx => by rw [List.mem_replicate] at hx; obtain ⟨_, rfl⟩ := hx; exact ⟨Int.le_refl _, by decide⟩)
    (fun t _ => by rw [List.getD_eq_getElem?_getD, List.getElem?_replicate]; split <;> rfl) ⟨by
      rw [List.take_zero, val_nil, Int.zero_mul]
      generalize (figs 65536 a).length + (figs 65536 b).length = N
      induction N with
      | zero => rfl
      | succ N ih => rw [List.replicate_succ, val_cons, ih]; rfl⟩
  rw [figs_val (by omega), figs_val (by omega), show ((a : Int) * (b : Int)).toNat = a * b from by rw [← Int.natCast_mul, Int.toNat_natCast]] at h
  refine Ev.congr (fun k => ?_) h
  unfold spec_Mul.f
  have w1 : wrap64 (((figs 65536 a).length : Int) + ((figs 65536 b).length : Int)) = (((figs 65536 a).length + (figs 65536 b).length : Nat) : Int) := w64' (by omega) (by omega) (by omega)
  rw [w1]
  clear w1
  rw [if_pos (by omega), if_pos (by omega), Int.toNat_natCast]

/-! Power -/
theorem power_loop (b : Nat) (hb0 : 0 < b) (hb : b < 65536) : ∀ (n : Nat) (a : Nat), n < 100000 → (figs 65536 a).length + n < 1000000000 → Ev (fun k => spec_Power.l0 k b n (figs 65536 a)) (figs 65536 (a * b ^ n))
  | 0, a, hn, hl => by
    rw [Nat.pow_zero, Nat.mul_one]
    refine Ev.step (f := fun k => some (figs 65536 a)) (fun k => ?_) (Ev.now _)
    simp only [spec_Power.l0]
    rw [if_neg (by omega)]
  | n + 1, a, hn, hl => by
    have h1 : (figs 65536 b).length ≤ 1 := figs_length_le (by omega) 1 b (by omega)
    have hlen : (figs 65536 (a * b)).length ≤ (figs 65536 a).length + 1 := by
      refine figs_length_le (by omega) _ _ ?_
      have hr := (val_range (by decide) (figs_Dg (B := 65536) (by omega) a)).2
      rw [figs_val (by omega)] at hr
      have hr' : a < 65536 ^ (figs 65536 a).length := by exact_mod_cast hr
      rw [Nat.pow_succ]
      exact Nat.lt_of_lt_of_le (Nat.mul_lt_mul_of_pos_right hr' hb0) (Nat.mul_le_mul_left _ (by omega))
    have ih := power_loop b hb0 hb n (a * b) (by omega) (by omega)
    rw [Nat.mul_assoc, ← Nat.pow_succ'] at ih
    have w1 : wrap64 (((n + 1 : Nat) : Int) - 1) = (n : Int) := w64' (by omega) (by omega) (by omega)
    refine Ev.step (f := fun k => (spec_Small.f k b).bind fun t540 => ((spec_Mul.f k (figs 65536 a) t540).bind fun t543 => (spec_Power.l0 k b n t543))) (fun k => ?_) (Ev.bind (small_f b (by omega)) (Ev.bind (mul_f a b (by omega) (by omega)) ih))
    simp only [spec_Power.l0]
    rw [if_pos (by omega), w1]
theorem power_f (b n : Nat) (hb0 : 0 < b) (hb : b < 65536) (hn : n < 100000) : Ev (fun k => spec_Power.f k b n) (figs 65536 (b ^ n)) := by
  have h1 : (figs 65536 1).length ≤ 1 := figs_length_le (by omega) 1 1 (by omega)
  have h := power_loop b hb0 hb n 1 hn (by omega)
  rw [Nat.one_mul] at h
  exact Ev.congr (fun k => by unfold spec_Power.f; rfl) (Ev.bind (small_f 1 (by omega)) h)

/-! Len -/
theorem len_loop : ∀ (m t n : Nat), t < 2 ^ m → n + m < 1000000000000 → t < 1000000 → ∃ L : Nat, Ev (fun k => spec_Len.l0 k n t) ((n + L : Nat) : Int) ∧ t < 2 ^ L ∧ (0 < t → 0 < L ∧ 2 ^ (L - 1) ≤ t) ∧ (t = 0 → L = 0) ∧ L ≤ m
  | m, 0, n, ht, hn, h6 => ⟨0, Ev.step (f := fun k => some (n : Int)) (fun k => by simp only [spec_Len.l0]; rw [if_neg (by omega)]) (Ev.now _), by decide, fun h => absurd h (by omega), fun _ => rfl, Nat.zero_le _⟩
  | 0, t + 1, n, ht, hn, h6 => absurd ht (by simp)
  | m + 1, t + 1, n, ht, hn, h6 => by
    obtain ⟨L, hL, h1, h2, h3, h4⟩ := len_loop m ((t + 1) / 2) (n + 1) (by rw [Nat.pow_succ] at ht; omega) (by omega) (by omega)
    refine ⟨L + 1, ?_, by rw [Nat.pow_succ]; omega, fun _ => ⟨by omega, ?_⟩, fun h => absurd h (by omega), by omega⟩
    · have w1 : wrap64 ((n : Int) + 1) = ((n + 1 : Nat) : Int) := w64' (by omega) (by omega) (by omega)
      have w2 : wrap64 (Int.tdiv ((t + 1 : Nat) : Int) 2) = (((t + 1) / 2 : Nat) : Int) := by
        rw [show Int.tdiv ((t + 1 : Nat) : Int) 2 = (((t + 1) / 2 : Nat) : Int) from rfl]
        exact w64 (by omega) (by omega)
      have e : n + (L + 1) = n + 1 + L := by omega
      rw [e]
      refine Ev.step (fun k => ?_) hL
      simp only [spec_Len.l0]
      rw [w1, w2]
      clear w1 w2
      rw [if_pos (by omega)]
    · rw [Nat.add_sub_cancel]
      rcases Nat.eq_zero_or_pos ((t + 1) / 2) with h | h
      · rw [h3 h]; simp
      · obtain ⟨a, b⟩ := h2 h
        obtain ⟨L', rfl⟩ : ∃ L', L = L' + 1 := ⟨L - 1, by omega⟩
        rw [Nat.add_sub_cancel] at b
        rw [Nat.pow_succ]
        omega

theorem len_f (a : Nat) (hm : (figs 65536 a).length < 1000000000) : ∃ L : Nat, Ev (fun k => spec_Len.f k (figs 65536 a)) (L : Int) ∧ a < 2 ^ L ∧ (0 < a → 0 < L ∧ 2 ^ (L - 1) ≤ a) ∧ L ≤ 16 * (figs 65536 a).length := by
  rcases Nat.eq_zero_or_pos a with rfl | hp
  · refine ⟨0, ?_, by decide, fun h => absurd h (by omega), Nat.zero_le _⟩
    refine Ev.congr (fun k => ?_) (Ev.now (0 : Int))
    unfold spec_Len.f
    rw [figs_zero]
    rfl
  · have hne := figs_ne (B := 65536) (by omega) hp
    have hd := figs_Dg (B := 65536) (by omega) a
    have hv := figs_val (B := 65536) (by omega) a
    have htop := figs_Top (B := 65536) (by omega) a
    obtain ⟨ys, y, hy⟩ : ∃ ys y, figs 65536 a = ys ++ [y] := (snoc _).resolve_left hne
    rw [hy] at hd hv htop hm ⊢
    have hy0 : y ≠ 0 := by simpa [Top] using htop
    have hyr : 0 ≤ y ∧ y < 65536 := (Dg_append.1 hd).2 y (by simp)
    obtain ⟨z, rfl⟩ := Int.eq_ofNat_of_zero_le hyr.1
    have hr := val_range (by decide) (Dg_append.1 hd).1
    rw [val_snoc] at hv
    obtain ⟨q, hq⟩ := Int.eq_ofNat_of_zero_le hr.1
    have hq1 : q < 65536 ^ ys.length := by
      have := hr.2
      rw [hq] at this
      exact_mod_cast this
    have ha : a = q + z * 65536 ^ ys.length := by
      rw [hq] at hv
      exact_mod_cast hv.symm
    obtain ⟨L, hL, h1, h2, _, h4⟩ := len_loop 16 z (16 * ys.length) (by omega) (by simp at hm; omega) (by omega)
    have e16 : (65536 : Nat) ^ ys.length = 2 ^ (16 * ys.length) := by rw [Nat.pow_mul]
    obtain ⟨l0, l1⟩ := h2 (by omega)
    refine ⟨16 * ys.length + L, ?_, ?_, fun _ => ⟨by omega, ?_⟩, by simp; omega⟩
    · refine Ev.congr (fun k => ?_) hL
      unfold spec_Len.f
      have hl : ((ys ++ [(z : Int)]).length : Int) = ((ys.length + 1 : Nat) : Int) := by simp
      have w1 : wrap64 (((ys.length + 1 : Nat) : Int) - 1) = (ys.length : Int) := w64' (by omega) (by simp at hm; omega) (by simp at hm; omega)
      have w2 : wrap64 (16 * (ys.length : Int)) = ((16 * ys.length : Nat) : Int) := w64' (by omega) (by simp at hm; omega) (by simp at hm; omega)
      have r1 : rd (ys ++ [(z : Int)]) (ys.length : Int) = z := by simp [rd]
      rw [hl, w1, w2, r1]
      clear w1 w2 r1
      rw [if_neg (by omega), if_pos (by omega), if_pos (by omega)]
    · rw [ha, Nat.pow_add, e16]
      rw [e16] at hq1
      have : (z + 1) * 2 ^ (16 * ys.length) ≤ 2 ^ L * 2 ^ (16 * ys.length) := Nat.mul_le_mul_right _ h1
      rw [Nat.succ_mul] at this
      rw [Nat.mul_comm (2 ^ (16 * ys.length))]
      omega
    · rw [show 16 * ys.length + L - 1 = (L - 1) + 16 * ys.length from by omega, Nat.pow_add, ha, e16]
      have : 2 ^ (L - 1) * 2 ^ (16 * ys.length) ≤ z * 2 ^ (16 * ys.length) := Nat.mul_le_mul_right _ l1
      omega
end Go.Proofs.YtgpoplfgngiilaaGreatDoor.Pl

namespace Go.Proofs.YtgpoplfgngiilaaGreatDoor.PAll
open Go.RowKit Go.Proofs.YtgpoplfgngiilaaGreatDoorW.PrintWords Go.Proofs.YtgpoplfgngiilaaGreatDoorW.PrintLast Go.Proofs.YtgpoplfgngiilaaGreatDoorW.PrintMore
attribute [local go_sem] max2_int min2_int max_two min_two max_three min_three max_four min_four   -- for this text's walks alone
/-! ### spec_Bit: function 83 -/
def spec_Bit.f (a0 : Int) : Option (List Int) := if 0 ≤ (wrap64 ((wrap64 (Int.tdiv a0 16)) + 1)) then (if (wrap64 ((wrap64 (Int.tdiv a0 16)) + 1) : Int).toNat ≤ 35184372088832 then ((some (List.replicate (wrap64 ((wrap64 (Int.tdiv a0 16)) + 1) : Int).toNat 0 : List Int)).bind fun y470 => (if 0 ≤ (Int.tmod a0 16) then (if 0 ≤ (wrap64 (Int.tdiv a0 16)) then (if (wrap64 (Int.tdiv a0 16)) < (y470.length : Int) then (some (y470.set ((wrap64 (Int.tdiv a0 16)) : Int).toNat (shl .i64 1 (Int.tmod a0 16)))) else (none)) else (none)) else (none))) else (none)) else (none)
set_option maxHeartbeats 8000000 in
set_option maxRecDepth 100000 in
theorem spec_Bit.calls (a0 : Int) (r : List Int) (w : World) (h : spec_Bit.f a0 = some r) :
    Calls Tryz.prog 83 #[.int .i64 a0] w fun e w' => ∃ v0_ : Value, e = .returned (v0_) ∧ Kd.R (Kd.int .i64) 3 w' w.heap.size (fun _ => True) v0_ r ∧ Below w.heap.size w w' := by
  have HB := Aside0.mk (Below.refl w.heap.size w)
  have H : (if 0 ≤ (wrap64 ((wrap64 (Int.tdiv a0 16)) + 1)) then (if (wrap64 ((wrap64 (Int.tdiv a0 16)) + 1) : Int).toNat ≤ 35184372088832 then ((some (List.replicate (wrap64 ((wrap64 (Int.tdiv a0 16)) + 1) : Int).toNat 0 : List Int)).bind fun y470 => (if 0 ≤ (Int.tmod a0 16) then (if 0 ≤ (wrap64 (Int.tdiv a0 16)) then (if (wrap64 (Int.tdiv a0 16)) < (y470.length : Int) then (some (y470.set ((wrap64 (Int.tdiv a0 16)) : Int).toNat (shl .i64 1 (Int.tmod a0 16)))) else (none)) else (none)) else (none))) else (none)) else (none)) = some r := h
  clear h
  obtain ⟨ji2, hji2⟩ : ∃ j_ : Int, (wrap64 ((wrap64 (Int.tdiv a0 16)) + 1)) = j_ := ⟨_, rfl⟩
  replace H : (if 0 ≤ (ji2) then (if (ji2 : Int).toNat ≤ 35184372088832 then ((some (List.replicate (ji2 : Int).toNat 0 : List Int)).bind fun y470 => (if 0 ≤ (Int.tmod a0 16) then (if 0 ≤ (wrap64 (Int.tdiv a0 16)) then (if (wrap64 (Int.tdiv a0 16)) < (y470.length : Int) then (some (y470.set ((wrap64 (Int.tdiv a0 16)) : Int).toNat (shl .i64 1 (Int.tmod a0 16)))) else (none)) else (none)) else (none))) else (none)) else (none)) = some r := by first | (rw [hji2] at H; exact H) | (simp only [hji2] at H ⊢; exact H)
  have hji2w : (IntKind.i64.wrap ((wrap64 (Int.tdiv a0 16)) + 1)) = ji2 := (i64_w _).trans hji2
  by_cases c3 : 0 ≤ (ji2)
  · rw [if_pos c3] at H
    have c3b0 := eq_true c3
    have c3b1 : decide (0 ≤ (ji2)) = true := decide_eq_true c3
    clear c3
    by_cases c4 : (ji2 : Int).toNat ≤ 35184372088832
    · rw [if_pos c4] at H
      have c4b0 := eq_true c4
      have c4b1 : decide ((ji2 : Int).toNat ≤ 35184372088832) = true := decide_eq_true c4
      clear c4
      obtain ⟨y470, hy470⟩ : ∃ y_ : List Int, y_ = (List.replicate (ji2 : Int).toNat 0) := ⟨_, rfl⟩
      replace H : (if 0 ≤ (Int.tmod a0 16) then (if 0 ≤ (wrap64 (Int.tdiv a0 16)) then (if (wrap64 (Int.tdiv a0 16)) < (y470.length : Int) then (some (y470.set ((wrap64 (Int.tdiv a0 16)) : Int).toNat (shl .i64 1 (Int.tmod a0 16)))) else (none)) else (none)) else (none)) = some r := by first | (rw [hy470]; with_reducible exact H) | (have H2_ := (Option.bind_some _ _).symm.trans H; rw [hy470]; with_reducible exact H2_) | (have H2_ := (Option.bind_some _ _).symm.trans H; with_reducible exact H2_) | with_reducible exact H | (rw [hy470]; exact H) | exact H
      have Ny470 := Aside0.mk hy470
      clear hy470
      obtain ⟨ji5, hji5⟩ : ∃ j_ : Int, (Int.tmod a0 16) = j_ := ⟨_, rfl⟩
      replace H : (if 0 ≤ (ji5) then (if 0 ≤ (wrap64 (Int.tdiv a0 16)) then (if (wrap64 (Int.tdiv a0 16)) < (y470.length : Int) then (some (y470.set ((wrap64 (Int.tdiv a0 16)) : Int).toNat (shl .i64 1 (ji5)))) else (none)) else (none)) else (none)) = some r := by first | (rw [hji5] at H; exact H) | (simp only [hji5] at H ⊢; exact H)
      by_cases c6 : 0 ≤ (ji5)
      · rw [if_pos c6] at H
        have c6b0 := eq_true c6
        have c6b1 : decide (0 ≤ (ji5)) = true := decide_eq_true c6
        clear c6
        obtain ⟨ji7, hji7⟩ : ∃ j_ : Int, (shl .i64 1 (ji5)) = j_ := ⟨_, rfl⟩
        replace H : (if 0 ≤ (wrap64 (Int.tdiv a0 16)) then (if (wrap64 (Int.tdiv a0 16)) < (y470.length : Int) then (some (y470.set ((wrap64 (Int.tdiv a0 16)) : Int).toNat (ji7))) else (none)) else (none)) = some r := by first | (rw [hji7] at H; exact H) | (simp only [hji7] at H ⊢; exact H)
        have hji7_ : (IntKind.i64.wrap (1 * 2 ^ min (ji5).toNat 64)) = ji7 := hji7
        have hji7z : (ji5) ≤ 64 → (IntKind.i64.wrap (1 * 2 ^ (ji5).toNat)) = ji7 := shl_small hji7
        have hji7u : (IntKind.i64.wrap (2 ^ min (ji5).toNat 64)) = ji7 := by have h_ := hji7_; rw [Int.one_mul] at h_; exact h_
        have hji7v : (ji5) ≤ 64 → (IntKind.i64.wrap (2 ^ (ji5).toNat)) = ji7 := fun hle_ => by have h_ := hji7z hle_; rw [Int.one_mul] at h_; exact h_
        have hji7y : (wrap64 (1 * 2 ^ min (ji5).toNat 64)) = ji7 := (i64_w _).symm.trans hji7_
        have hji7x : (ji5) ≤ 64 → (wrap64 (1 * 2 ^ (ji5).toNat)) = ji7 := fun h_ => (i64_w _).symm.trans (hji7z h_)
        obtain ⟨ji8, hji8⟩ : ∃ j_ : Int, (wrap64 (Int.tdiv a0 16)) = j_ := ⟨_, rfl⟩
        replace H : (if 0 ≤ (ji8) then (if (ji8) < (y470.length : Int) then (some (y470.set ((ji8) : Int).toNat (ji7))) else (none)) else (none)) = some r := by first | (rw [hji8] at H; exact H) | (simp only [hji8] at H ⊢; exact H)
        have hji8w : (IntKind.i64.wrap (Int.tdiv a0 16)) = ji8 := (i64_w _).trans hji8
        by_cases c9 : 0 ≤ (ji8)
        · rw [if_pos c9] at H
          have c9b0 : decide (0 ≤ (ji8)) = true := decide_eq_true c9
          clear c9
          by_cases c10 : (ji8) < (y470.length : Int)
          · rw [if_pos c10] at H
            have c10b0 : decide ((ji8) < (y470.length : Int)) = true := decide_eq_true c10
            clear c10
            obtain ⟨y473, hy473⟩ : ∃ y_ : List Int, y_ = (y470.set ((ji8) : Int).toNat (ji7)) := ⟨_, rfl⟩
            replace H : (some y473) = some r := by first | (rw [hy473]; with_reducible exact H) | (have H2_ := (Option.bind_some _ _).symm.trans H; rw [hy473]; with_reducible exact H2_) | (have H2_ := (Option.bind_some _ _).symm.trans H; with_reducible exact H2_) | with_reducible exact H | (rw [hy473]; exact H) | exact H
            have Ny473 := Aside0.mk hy473
            clear hy473
            obtain rfl := Option.some.inj H
            have hji28 : wrap64 (ji8 + 1) = ji2 := by rw [← hji8]; exact hji2
            have hji28w : IntKind.i64.wrap (ji8 + 1) = ji2 := (i64_w _).trans hji28
            go_enter Tryz.func83, Tryz.ntmps83
            go_wp2_with (first | ((with_reducible refine gate_dst (N := 7) rfl ?_); refine Kd.R_make (Kd.int .i64) _ 3 rfl (N := 7) rfl 29 _ _ rfl ji2 rfl rfl Tryz.underlying29 (.int .i64 0) 8 info3 rfl (by decide) (by omega) 0 (ok := fun _ => True) (okp := fun _ => True) rfl (fun _ hk => hk) trivial (of_decide_eq_true (by first | (with_reducible assumption) | assumption)) (Nat.le_trans (Nat.mul_le_mul_right _ (of_decide_eq_true (by first | (with_reducible assumption) | assumption) : ji2.toNat ≤ 35184372088832)) (by omega)) (Below.refl _ _) (Nat.le_refl _) ?_; intro v471 w12 ho13 hb hg_ hnew_; clear hg_ hnew_; (first | rw [← Ny470.out] at ho13 | (simp only [Int.reduceToNat] at ho13; rw [← Ny470.out] at ho13)); have n0_ := Aside0.mk (Kd.R_lower ho13 (below_size (by repeat (first | (with_reducible first | exact HB.out | apply below_alloc | apply pw_below_drewN | apply below_drew1) | exact HB.out)))); have n1_ := Aside0.mk (below_step (by repeat (first | (with_reducible first | exact HB.out | apply below_alloc | apply pw_below_drewN | apply below_drew1) | exact HB.out)) hb); clear HB; have HO472 := n0_; have HB := n1_; clear n0_ n1_; clear hb ho13; have p11 : 0 ≤ ((ji8) : Int) := of_decide_eq_true (by first | (with_reducible assumption) | assumption); have q11 : ((ji8) : Int) < ((y470.length : Int) : Int) := of_decide_eq_true (by first | (with_reducible assumption) | assumption); obtain ⟨go11, co11, eo11, gb11, gl11, cl11, HG11⟩ := Kd.R_form HO472.out (by omega); (first | cases eo11 | (injection eo11 with ea_ en_ ec_; (first | subst ea_ | (injection ea_ with ea_; subst ea_)); subst ec_; clear en_)); have GB11 := Aside0.mk gb11; have GG11 := Aside0.mk HG11; clear gb11 gl11 HG11; obtain ⟨hx11_0, hf11_0⟩ := Kd.R_celln 0 HO472.out ((ji8) : Int) p11 q11; replace p11 := eq_true p11; replace q11 := eq_true q11; obtain ⟨hy14_, hz14_⟩ := Kd.R_celln 0 HO472.out ((ji8) : Int) (of_decide_eq_true (by first | (with_reducible assumption) | assumption)) (of_decide_eq_true (by first | (with_reducible assumption) | assumption)); have HP14 := Kd.R_putg HO472.out ((ji8) : Int) ji7) | ((with_reducible refine gate_store (t := 3) (p := 14) rfl ?_); refine store_event (t := 3) (p := 14) (v := ?vo_w15) (w1 := (w12.setCell ⟨go11, ((ji8) : Int).toNat, none⟩ (.int .i64 ji7))) ?hg ?ho ?hn ?hr ?_; (case ho => rfl); (case hg => rfl); (case hn => rfl); (case hr => first | (go_simp; done) | (go_simp; rfl)); intro w15 hw; have hg : w12.grownBy w15 (some go11) := (by rw [hw]; exact HP14.2); have hp_ : Kd.R (Kd.int .i64) 3 w15 w.heap.size (fun _ => True) (.slice (some ⟨go11, 0, none⟩) y470.length co11) y473 := (by rw [hw, Ny473.out]; exact HP14.1); clear HP14; have n0_ := Aside0.mk (hp_); have n1_ := Aside0.mk ((by rw [hw]; exact below_set (HB.out) GB11.out : Below w.heap.size w w15)); clear HO472; clear HB; have HO472 := n0_; have HB := n1_; clear n0_ n1_; clear hg hw hp_))
            go_ret
            exact ⟨_, by first | rfl | (simp [errW_none, errW_some] <;> rfl) | (simp only [← hji2, ← hji5, ← hji7, ← hji8]; first | rfl | (simp [errW_none, errW_some] <;> rfl)) | (simp [*, errW_none, errW_some] <;> rfl), by (with_reducible repeat (first | apply Kd.R_alloc | apply Kd.R_drewN | apply Kd.R_drew)); exact HO472.out, by repeat (first | (with_reducible first | exact HB.out | apply below_alloc | apply pw_below_drewN | apply below_drew1) | exact HB.out)⟩
          · rw [if_neg c10] at H
            exact absurd H (by simp)
        · rw [if_neg c9] at H
          exact absurd H (by simp)
      · rw [if_neg c6] at H
        exact absurd H (by simp)
    · rw [if_neg c4] at H
      exact absurd H (by simp)
  · rw [if_neg c3] at H
    exact absurd H (by simp)

-- NOT PRINTED: function 54 (spec_DivMod)

-- NOT PRINTED: function 53 (spec_Gcd)

-- NOT PRINTED: function 52 (spec_fraction)

-- NOT PRINTED: function 31 (spec_Rational)

-- NOT PRINTED: function 18 (spec_IsFloat)

-- NOT PRINTED: function 32 (spec_Over)
end Go.Proofs.YtgpoplfgngiilaaGreatDoor.PAll

namespace Go.Proofs.YtgpoplfgngiilaaGreatDoor.Pl
open Go.RowKit Go.Proofs.YtgpoplfgngiilaaGreatDoorW.PrintWords Go.Proofs.YtgpoplfgngiilaaGreatDoorW.PrintLast Go.Proofs.YtgpoplfgngiilaaGreatDoorW.PrintMore PAll

theorem shl_step (x e o : Nat) (hx : x < 65536) (he : e < 16) (ho : o < 2 ^ e) : o + x * 2 ^ e % 65536 < 65536 ∧ x * 2 ^ e / 65536 < 2 ^ e := by
  have h : 65536 = 2 ^ (16 - e) * 2 ^ e := by rw [← Nat.pow_add, show 16 - e + e = 16 from by omega]
  constructor
  · have m : x * 2 ^ e % 65536 = x % 2 ^ (16 - e) * 2 ^ e := by
      have := Nat.mul_mod_mul_right (2 ^ e) x (2 ^ (16 - e))
      rw [← h] at this
      exact this
    have hl := Nat.mod_lt x (Nat.pow_pos (n := 16 - e) (show 0 < 2 by omega))
    have : (x % 2 ^ (16 - e) + 1) * 2 ^ e ≤ 2 ^ (16 - e) * 2 ^ e := Nat.mul_le_mul_right _ hl
    rw [← h, Nat.succ_mul] at this
    rw [m]
    omega
  · apply Nat.div_lt_of_lt_mul
    exact Nat.mul_lt_mul_of_pos_right hx (Nat.pow_pos (by omega))
theorem pow16 (e : Nat) (he : e < 16) : 2 ^ e ≤ 32768 := Nat.pow_le_pow_right (n := 2) (by omega) (show e ≤ 15 by omega)
theorem shl_is (x e : Nat) (hx : x < 65536) (he : e < 16) : shl .i64 (x : Int) (e : Int) = ((x * 2 ^ e : Nat) : Int) := by
  have hp := pow16 e he
  have hb : x * 2 ^ e ≤ 65536 * 32768 := Nat.mul_le_mul (by omega) hp
  show IntKind.i64.wrap ((x : Int) * 2 ^ min ((e : Int).toNat) 64) = _
  rw [i64_w, Int.toNat_natCast, Nat.min_eq_left (by omega)]
  exact w64' (by push_cast; rfl) (by omega) (by omega)
theorem shl_w (n i l o x : Nat) (hn : n < 1000000000) (hi : i < 1000000000) (hx : x < 65536) (ho : o + x * 2 ^ (n % 16) % 65536 < 65536) :
    Int.tmod (n : Int) 16 = ((n % 16 : Nat) : Int) ∧ wrap64 (Int.tdiv (n : Int) 16) = ((n / 16 : Nat) : Int) ∧ wrap64 (((n / 16 : Nat) : Int) + i) = ((n / 16 + i : Nat) : Int) ∧ wrap64 (((n / 16 + i : Nat) : Int) + 1) = ((n / 16 + i + 1 : Nat) : Int) ∧
    wrap64 ((i : Int) + 1) = ((i + 1 : Nat) : Int) ∧ Int.tmod ((x * 2 ^ (n % 16) : Nat) : Int) 65536 = ((x * 2 ^ (n % 16) % 65536 : Nat) : Int) ∧ wrap64 (Int.tdiv ((x * 2 ^ (n % 16) : Nat) : Int) 65536) = ((x * 2 ^ (n % 16) / 65536 : Nat) : Int) ∧
    wrap64 ((o : Int) + ((x * 2 ^ (n % 16) % 65536 : Nat) : Int)) = ((o + x * 2 ^ (n % 16) % 65536 : Nat) : Int) := by
  have hb : x * 2 ^ (n % 16) ≤ 65536 * 32768 := Nat.mul_le_mul (by omega) (pow16 _ (Nat.mod_lt _ (by omega)))
  generalize x * 2 ^ (n % 16) = z at *
  refine ⟨rfl, ?_, w64' (by omega) (by omega) (by omega), w64' (by omega) (by omega) (by omega), w64' (by omega) (by omega) (by omega), rfl, ?_, w64' (by omega) (by omega) (by omega)⟩
  · rw [show Int.tdiv (n : Int) 16 = ((n / 16 : Nat) : Int) from rfl]; exact w64 (by omega) (by omega)
  · rw [show Int.tdiv (z : Int) 65536 = ((z / 65536 : Nat) : Int) from rfl]; exact w64 (by omega) (by omega)

theorem shl_loop (xs : List Int) (n : Nat) (hx : Dg (65536 : Nat) xs) (hm : xs.length < 1000000) (hn : n < 1000000000) :
    ∀ (j i : Nat) (out : List Int) (i' : Int), i + j = xs.length → i' = i → out.length = n / 16 + xs.length + 1 → Dg (65536 : Nat) out → out.getD (n / 16 + i) 0 < (2 ^ (n % 16) : Nat) → (∀ t, n / 16 + i < t → out.getD t 0 = 0) →
    Aside0 (val (65536 : Nat) out = val (65536 : Nat) (xs.take i) * (2 ^ n : Nat)) →
    Ev (fun k => spec_Shl.l0 k n out xs xs.length i') (figs 65536 (val (65536 : Nat) xs * (2 ^ n : Nat)).toNat)
  | 0, i, out, i', hij, hi', hl, ho, hc, hz, hv => by
    have hi : i = xs.length := by omega
    subst hi hi'
    have ht := trim_f out (by omega) ho
    have hv := hv.out
    rw [List.take_length] at hv
    rw [hv] at ht
    clear hv
    refine Ev.step (f := fun k => (spec_trim.f k out).bind fun t => some t) (fun k => ?_) (Ev.bind ht (Ev.now _))
    simp only [spec_Shl.l0]
    rw [if_neg (by omega)]
  | j + 1, i, out, i', hij, hi', hl, ho, hc, hz, hv => by
    subst hi'
    obtain ⟨x, hxe⟩ := Int.eq_ofNat_of_zero_le (Dg_get (by decide) hx i).1
    have hx1 : x < 65536 := by have := (Dg_get (by decide) hx i).2; rw [hxe] at this; omega
    obtain ⟨o, hoe⟩ := Int.eq_ofNat_of_zero_le (Dg_get (by decide) ho (n / 16 + i)).1
    have ho1 : o < 2 ^ (n % 16) := by rw [hoe] at hc; exact_mod_cast hc
    have hz1 : out.getD (n / 16 + i + 1) 0 = 0 := hz _ (by omega)
    obtain ⟨s1, s2⟩ := shl_step x (n % 16) o hx1 (Nat.mod_lt _ (by omega)) ho1
    have s3 := pow16 (n % 16) (Nat.mod_lt _ (by omega))
    have hi4 : i < 1000000000 := by clear s1 s2 s3 ho1; omega
    have hlt : n / 16 + i + 1 < out.length := by clear s1 s2 s3 ho1; omega
    have hsh := shl_is x (n % 16) hx1 (Nat.mod_lt _ (by omega))
    have s4 : x * 2 ^ (n % 16) / 65536 < 65536 := Nat.lt_of_lt_of_le s2 (Nat.le_trans s3 (by decide))
    have hij' : i + 1 + j = xs.length := by clear s1 s2 s3 s4 ho1; omega
    have hlt2 : n / 16 + i < out.length := by clear s1 s2 s3 s4 ho1; omega
    have far : ∀ t, n / 16 + (i + 1) < t → n / 16 + i + 1 ≠ t ∧ n / 16 + i ≠ t ∧ n / 16 + i < t := by clear s1 s2 s3 s4 ho1; intro t ht; omega
    have ih := shl_loop xs n hx hm hn j (i + 1) ((out.set (n / 16 + i) ((o + x * 2 ^ (n % 16) % 65536 : Nat) : Int)).set (n / 16 + i + 1) ((x * 2 ^ (n % 16) / 65536 : Nat) : Int)) _ hij' rfl (by rw [List.length_set, List.length_set]; exact hl)
      (Dg_set (Dg_set ho _ ⟨Int.natCast_nonneg _, by exact_mod_cast s1⟩) _ ⟨Int.natCast_nonneg _, by exact_mod_cast s4⟩)
      (by
        rw [← Nat.add_assoc, List.getD_eq_getElem?_getD, List.getElem?_set_self (by rw [List.length_set]; exact hlt)]
        exact Int.ofNat_lt.2 s2)
      (fun t ht => by rw [getD_set_ne _ _ _ _ (far t ht).1, getD_set_ne _ _ _ _ (far t ht).2.1]; exact hz t (far t ht).2.2) ⟨by
        have hv := hv.out
        have hdm := Nat.mod_add_div (x * 2 ^ (n % 16)) 65536
        rw [val_set _ _ _ (by rw [List.length_set]; exact hlt), getD_set_ne _ _ _ _ (Nat.ne_of_lt (Nat.lt_succ_self _)), hz1, val_set _ _ _ hlt2, hoe, val_take_succ, hxe, hv]
        have e2 : ((2 ^ n : Nat) : Int) = ((2 ^ (n % 16) : Nat) : Int) * (65536 : Int) ^ (n / 16) := by
          have h65 : (65536 : Nat) ^ (n / 16) = 2 ^ (16 * (n / 16)) := by rw [Nat.pow_mul]
          have h2 : 2 ^ n = 2 ^ (n % 16) * 65536 ^ (n / 16) := by rw [h65, ← Nat.pow_add, Nat.mod_add_div]
          rw [h2, Int.natCast_mul, Int.natCast_pow]; rfl
        rw [e2, Int.natCast_add, Int.pow_succ, Int.pow_add]
        have hdm' : ((x * 2 ^ (n % 16) % 65536 : Nat) : Int) + 65536 * ((x * 2 ^ (n % 16) / 65536 : Nat) : Int) = (x : Int) * ((2 ^ (n % 16) : Nat) : Int) := by
          have h := congrArg (fun z : Nat => (z : Int)) hdm
          rw [Int.natCast_add, Int.natCast_mul, Int.natCast_mul] at h
          exact h
        have e65 : ((65536 : Nat) : Int) = 65536 := rfl
        rw [e65]
        generalize ((x * 2 ^ (n % 16) % 65536 : Nat) : Int) = a at *
        generalize ((x * 2 ^ (n % 16) / 65536 : Nat) : Int) = b at *
        generalize ((2 ^ (n % 16) : Nat) : Int) = E at *
        generalize (65536 : Int) ^ (n / 16) = P
        generalize (65536 : Int) ^ i = Q
        generalize val 65536 (xs.take i) = V
        clear hv hdm e2 e65 s1 s2 s3 s4 hsh ho1 hc hz hz1 hxe hoe far hij' hlt hlt2 hx ho
        grind⟩
    refine Ev.step (fun k => ?_) ih
    simp only [spec_Shl.l0]
    have rx : rd xs (i : Int) = (x : Int) := hxe
    have ro : rd out ((n / 16 + i : Nat) : Int) = (o : Int) := hoe
    obtain ⟨w1, w2, w3, w4, w5, w6, w7, w8⟩ := shl_w n i 0 o x hn hi4 hx1 s1
    rw [w1, w2, w3, w4, w5, rx, hsh, w6, w7, ro, w8, Int.toNat_natCast, Int.toNat_natCast]
    clear w1 w2 w3 w4 w5 w6 w7 w8 s1 s2 s3 s4 hsh ho1 hc rx ro far hz hz1 hxe hoe
    rw [if_pos (by omega), if_pos (by omega), if_pos (by omega), if_pos (by omega), if_pos (by omega), if_pos (by omega), if_pos (by omega), if_pos (by omega)]

theorem val_zeros (B : Int) : ∀ N : Nat, val B (List.replicate N 0) = 0
  | 0 => rfl
  | N + 1 => by rw [List.replicate_succ, val_cons, val_zeros B N, Int.mul_zero]; rfl
theorem Dg_zeros (N : Nat) : Dg (65536 : Nat) (List.replicate N 0) := fun x hx => by rw [List.mem_replicate] at hx; obtain ⟨_, rfl⟩ := hx; exact ⟨Int.le_refl _, by decide⟩
theorem getD_zeros (N t : Nat) : (List.replicate N (0 : Int)).getD t 0 = 0 := by rw [List.getD_eq_getElem?_getD, List.getElem?_replicate]; split <;> rfl

theorem shl_f (a n : Nat) (hm : (figs 65536 a).length < 1000000) (hn : n < 1000000000) : Ev (fun k => spec_Shl.f k (figs 65536 a) n) (figs 65536 (a * 2 ^ n)) := by
  rcases Nat.eq_zero_or_pos a with rfl | hp
  · rw [Nat.zero_mul, figs_zero]
    exact Ev.congr (fun k => by unfold spec_Shl.f; rfl) (Ev.now ([] : List Int))
  · have hne := figs_ne (B := 65536) (by omega) hp
    have hl : 0 < (figs 65536 a).length := List.length_pos_iff.2 hne
    have h := shl_loop (figs 65536 a) n (figs_Dg (by omega) a) hm hn (figs 65536 a).length 0 (List.replicate (n / 16 + (figs 65536 a).length + 1) 0) 0 (by omega) rfl (by simp) (Dg_zeros _)
      (by rw [getD_zeros]; exact Int.natCast_pos.2 (Nat.pow_pos (by omega))) (fun t _ => getD_zeros _ _) ⟨by rw [val_zeros, List.take_zero, val_nil, Int.zero_mul]⟩
    rw [figs_val (by omega), ← Int.natCast_mul, Int.toNat_natCast] at h
    refine Ev.congr (fun k => ?_) h
    unfold spec_Shl.f
    have w1 : wrap64 (Int.tdiv (n : Int) 16) = ((n / 16 : Nat) : Int) := by
      rw [show Int.tdiv (n : Int) 16 = ((n / 16 : Nat) : Int) from rfl]; exact w64 (by omega) (by omega)
    have w2 : wrap64 (((n / 16 : Nat) : Int) + ((figs 65536 a).length : Int)) = ((n / 16 + (figs 65536 a).length : Nat) : Int) := w64' (by omega) (by omega) (by omega)
    have w3 : wrap64 (((n / 16 + (figs 65536 a).length : Nat) : Int) + 1) = ((n / 16 + (figs 65536 a).length + 1 : Nat) : Int) := w64' (by omega) (by omega) (by omega)
    rw [w1, w2, w3]
    clear w1 w2 w3
    rw [if_neg (by omega), if_pos (by omega), if_pos (by omega), Int.toNat_natCast]

theorem bit_f (n : Nat) (hn : n < 1000000000) : spec_Bit.f n = some (figs 65536 (2 ^ n)) := by
  have hsh := shl_is 1 (n % 16) (by omega) (Nat.mod_lt _ (by omega))
  rw [Nat.one_mul] at hsh
  have hp := pow16 (n % 16) (Nat.mod_lt _ (by omega))
  have hp0 : 0 < 2 ^ (n % 16) := Nat.pow_pos (by omega)
  have e : (List.replicate (n / 16 + 1) (0 : Int)).set (n / 16) ((2 ^ (n % 16) : Nat) : Int) = figs 65536 (2 ^ n) := by
    have hd : Dg (65536 : Nat) ((List.replicate (n / 16 + 1) (0 : Int)).set (n / 16) ((2 ^ (n % 16) : Nat) : Int)) := Dg_set (Dg_zeros _) _ ⟨Int.natCast_nonneg _, by omega⟩
    have ht : Top ((List.replicate (n / 16 + 1) (0 : Int)).set (n / 16) ((2 ^ (n % 16) : Nat) : Int)) := by
      unfold Top
      rw [List.getLast?_eq_getElem?, List.length_set, List.length_replicate, Nat.add_sub_cancel, List.getElem?_set_self (by simp)]
      intro hc
      injection hc with hc
      omega
    have h := figs_uniq (B := 65536) (by omega) hd ht
    rw [val_set _ _ _ (by simp), getD_zeros, val_zeros, Int.sub_zero, Int.zero_add] at h
    have h65 : (65536 : Nat) ^ (n / 16) = 2 ^ (16 * (n / 16)) := by rw [Nat.pow_mul]
    have h2 : 2 ^ n = 2 ^ (n % 16) * 65536 ^ (n / 16) := by rw [h65, ← Nat.pow_add, Nat.mod_add_div]
    rw [← Int.natCast_pow, ← Int.natCast_mul, ← h2, Int.toNat_natCast] at h
    exact h
  unfold spec_Bit.f
  have w1 : wrap64 (Int.tdiv (n : Int) 16) = ((n / 16 : Nat) : Int) := by
    rw [show Int.tdiv (n : Int) 16 = ((n / 16 : Nat) : Int) from rfl]; exact w64 (by omega) (by omega)
  have w2 : wrap64 (((n / 16 : Nat) : Int) + 1) = ((n / 16 + 1 : Nat) : Int) := w64' (by omega) (by omega) (by omega)
  have w3 : Int.tmod (n : Int) 16 = ((n % 16 : Nat) : Int) := rfl
  rw [w1, w2, w3, Int.toNat_natCast, Int.toNat_natCast, show (1 : Int) = ((1 : Nat) : Int) from rfl, hsh]
  clear w1 w2 w3 hsh hp hp0
  rw [if_pos (by omega), if_pos (by omega), Option.bind_some, if_pos (by omega), if_pos (by omega), if_pos (by rw [List.length_replicate]; omega), e]
end Go.Proofs.YtgpoplfgngiilaaGreatDoor.Pl

namespace Go.Proofs.YtgpoplfgngiilaaGreatDoor
open Go.RowKit Go.Proofs.YtgpoplfgngiilaaGreatDoorW.PrintWords Go.Proofs.YtgpoplfgngiilaaGreatDoorW.PrintLast Go.Proofs.YtgpoplfgngiilaaGreatDoorW.PrintMore PAll Pl

/-- A slice value that reads as the figures of n in base 65536. -/
def Nd (w : World) (v : Value) (n : Nat) : Prop := ∃ A c, v = .slice A (figs 65536 n).length c ∧ (figs 65536 n).length ≤ c ∧ Kd.C (Kd.int .i64) w A (figs 65536 n).length (figs 65536 n)
theorem Nd.below {w w1 : World} {v : Value} {n : Nat} (h : Nd w v n) (hb : Below w.heap.size w w1) : Nd w1 v n := by
  obtain ⟨A, c, hv, hl, hc⟩ := h
  exact ⟨A, c, hv, hl, Kd.C_below hc hb⟩
theorem Nd.of_V {w : World} {e base : Nat} {ok : Nat → Prop} {v : Value} {n : Nat} (h : Kd.V (Kd.int .i64) e w base ok v (figs 65536 n)) : Nd w v n := by
  obtain ⟨A, c, hv, hl, hc⟩ := V_C h
  exact ⟨A, c, hv, hl, hc⟩

theorem mul_nd (a b : Nat) (u v : Value) (w : World) (hu : Nd w u a) (hv : Nd w v b) (hm : (figs 65536 a).length < 1000000000) (hm2 : (figs 65536 b).length < 1000000000) :
    Calls Tryz.prog 33 #[u, v] w fun e w' => ∃ r, e = .returned r ∧ Nd w' r (a * b) ∧ Below w.heap.size w w' := by
  obtain ⟨A, c, rfl, hl, hc⟩ := hu
  obtain ⟨A1, c1, rfl, hl1, hc1⟩ := hv
  obtain ⟨k, hk⟩ := (mul_f a b hm hm2).rounds
  refine (spec_Mul.calls k A c _ A1 c1 _ _ w hc hl hc1 hl1 hk).mono ?_
  rintro e w' ⟨r, rfl, hr, hb⟩
  exact ⟨r, rfl, Nd.of_V hr, hb⟩
theorem add_nd (a b : Nat) (u v : Value) (w : World) (hu : Nd w u a) (hv : Nd w v b) (hm : (figs 65536 a).length < 1000000000000) (hm2 : (figs 65536 b).length < 1000000000000) :
    Calls Tryz.prog 82 #[u, v] w fun e w' => ∃ r, e = .returned r ∧ Nd w' r (a + b) ∧ Below w.heap.size w w' := by
  obtain ⟨A, c, rfl, hl, hc⟩ := hu
  obtain ⟨A1, c1, rfl, hl1, hc1⟩ := hv
  obtain ⟨k, hk⟩ := (add_f a b hm hm2).rounds
  refine (spec_Add.calls k A c _ A1 c1 _ _ w hc hl hc1 hl1 hk).mono ?_
  rintro e w' ⟨r, rfl, hr, hb⟩
  exact ⟨r, rfl, Nd.of_V hr, hb⟩
theorem sub_nd (a b : Nat) (h : b ≤ a) (u v : Value) (w : World) (hu : Nd w u a) (hv : Nd w v b) (hm : (figs 65536 a).length < 1000000000000) :
    Calls Tryz.prog 81 #[u, v] w fun e w' => ∃ r, e = .returned r ∧ Nd w' r (a - b) ∧ Below w.heap.size w w' := by
  obtain ⟨A, c, rfl, hl, hc⟩ := hu
  obtain ⟨A1, c1, rfl, hl1, hc1⟩ := hv
  obtain ⟨k, hk⟩ := (sub_f a b h hm).rounds
  refine (spec_Sub.calls k A c _ A1 c1 _ _ w hc hl hc1 hl1 hk).mono ?_
  rintro e w' ⟨r, rfl, hr, hb⟩
  exact ⟨r, rfl, Nd.of_V hr, hb⟩
end Go.Proofs.YtgpoplfgngiilaaGreatDoor
