/- Rat's SetString over a hexadecimal text with an exponent. Rat's SetString over the text of the one figure 0. The exponent's text as scanExponent wants it. -/
import Derived.Test.YtgpoplfgngiilaaGreatDoorZ13
import Derived.Test.YtgpoplfgngiilaaGreatDoorZ15
import Derived.Test.YtgpoplfgngiilaaGreatDoorZ17
set_option linter.unusedVariables false
set_option linter.unusedSimpArgs false
namespace Go.Proofs.YtgpoplfgngiilaaGreatDoor
open Go.RowKit Go.Proofs.YtgpoplfgngiilaaGreatDoorW.PrintWords PAll Pl Dv

/-- The numerator and the denominator ahead of the reduction. -/
def rNum (V : Nat) (E : Int) : Nat := V * 2 ^ E.toNat
def rDen (E : Int) : Nat := 2 ^ (-E).toNat

theorem words_len (X k : Nat) (hX : X < 18446744073709551616) : (figs 18446744073709551616 (X * 2 ^ k)).length ≤ k + 1 := by
  refine figs_length_le (by decide) (k + 1) _ ?_
  rw [Nat.pow_succ, Nat.mul_comm]
  exact Nat.mul_lt_mul_of_le_of_lt (Nat.pow_le_pow_left (by decide) k) hX (Nat.pow_pos (by decide))

theorem int_split {E : Int} (h : -1400 ≤ E ∧ E ≤ 1000) : E = 0 ∨ (∃ k : Nat, E = k ∧ 0 < k ∧ k ≤ 1400) ∨ (∃ k : Nat, E = -(k : Int) ∧ 0 < k ∧ k ≤ 1400) := by
  rcases Int.lt_trichotomy E 0 with h1 | h1 | h1
  · exact .inr (.inr ⟨(-E).toNat, by omega, by omega, by omega⟩)
  · exact .inl h1
  · exact .inr (.inl ⟨E.toNat, by omega, by omega, by omega⟩)

/-- A number of one word, by its block. -/
theorem Nt_one {W : World} {base g c X : Nat} {cur : Array Value} (hb : base ≤ g) (hg : W.heap[g]? = some (.cells cur 167 (0, 0))) (hc : 1 ≤ c) (hm : c ≤ 9223372036854775807) (hs : cur.size = c) (hX0 : 0 < X) (hX : X < 18446744073709551616) (h0 : cur[0]? = some (.int .u64 (X : Int))) :
    Nt W base (.slice (some ⟨g, 0, none⟩) 1 c) (figs 18446744073709551616 X) := by
  rw [figs_one (by decide) hX0 hX]
  exact Nt_mk (xs := [(X : Int)]) hb hg hc hm hs (fun i hi => by
    have : i = 0 := by simpa using hi
    subst this; exact h0)

theorem rNum_pos {V : Nat} {E : Int} (h : 0 < V) : 0 < rNum V E := Nat.mul_pos h (Nat.pow_pos (by decide))
theorem rDen_pos {E : Int} : 0 < rDen E := Nat.pow_pos (by decide)
theorem rOne {V : Nat} {E : Int} (h : V < 18446744073709551616) : rNum V E < 18446744073709551616 ∨ rDen E < 18446744073709551616 := by
  rcases Int.lt_or_le E 0 with h1 | h1
  · left
    have e : E.toNat = 0 := by omega
    rw [rNum, e]; simpa using h
  · right
    have e : (-E).toNat = 0 := by omega
    rw [rDen, e]; decide
theorem rNum_len {V : Nat} {E : Int} (h : V < 18446744073709551616) (hE : -1400 ≤ E ∧ E ≤ 1000) : (figs 18446744073709551616 (rNum V E)).length ≤ 100000 :=
  Nat.le_trans (words_len V E.toNat h) (by omega)
theorem rDen_len {E : Int} (hE : -1400 ≤ E ∧ E ≤ 1000) : (figs 18446744073709551616 (rDen E)).length ≤ 100000 := by
  have h := words_len 1 (-E).toNat (by decide)
  rw [Nat.one_mul] at h
  exact Nat.le_trans h (by omega)

/-- Ahead of the reduction. -/
def RsC (N M z gs : Nat) (w W : World) : Prop :=
  ∃ a b, Rk W z a b ∧ Nt W z a (figs 18446744073709551616 N) ∧ Nt W z b (figs 18446744073709551616 M) ∧ (∀ k, a.ownBlock = some k → b.ownBlock ≠ some k) ∧ W.heap[gs]? = some (.cells #[.pointer none] 244 (0, 0)) ∧ Below z w W

/-- Ahead of the shift: the mantissa's word, the word 1. -/
structure RsA (V z gs hv c4 hb c9 : Nat) (cur cur9 : Array Value) (w W : World) : Prop where
  rk : Rk W z (.slice (some ⟨hv, 0, none⟩) 1 c4) (.slice (some ⟨hb, 0, none⟩) 1 c9)
  a : W.heap[hv]? = some (.cells cur 167 (0, 0))
  b : W.heap[hb]? = some (.cells cur9 167 (0, 0))
  st : W.heap[gs]? = some (.cells #[.pointer none] 244 (0, 0))
  bel : Below z w W
  zv : z < hv
  vb : hv < hb
  l9 : 1 ≤ c9
  m9 : c9 ≤ 9223372036854775807
  s9 : cur9.size = c9
  o9 : cur9[0]? = some (.int .u64 ((1 : Nat) : Int))
  l4 : 1 ≤ c4
  m4 : c4 ≤ 9223372036854775807
  s4 : cur.size = c4
  o4 : cur[0]? = some (.int .u64 (V : Int))
  p0 : 0 < V
  p1 : V < 18446744073709551616

section
variable {V z gs hv c4 hb c9 : Nat} {cur cur9 : Array Value} {w W : World}
theorem RsA.ntA (h : RsA V z gs hv c4 hb c9 cur cur9 w W) : Nt W z (.slice (some ⟨hv, 0, none⟩) 1 c4) (figs 18446744073709551616 V) := Nt_one (Nat.le_of_lt h.zv) h.a h.l4 h.m4 h.s4 h.p0 h.p1 h.o4
theorem RsA.ntB (h : RsA V z gs hv c4 hb c9 cur cur9 w W) : Nt W z (.slice (some ⟨hb, 0, none⟩) 1 c9) (figs 18446744073709551616 1) := Nt_one (Nat.le_of_lt (Nat.lt_trans h.zv h.vb)) h.b h.l9 h.m9 h.s9 (by decide) (by decide) h.o9
theorem RsA.zero (h : RsA V z gs hv c4 hb c9 cur cur9 w W) : RsC (rNum V 0) (rDen 0) z gs w W := by
  have h1 : rNum V 0 = V := by simp [rNum]
  have h2 : rDen 0 = 1 := by simp [rDen]
  rw [h1, h2]
  refine ⟨_, _, h.rk, h.ntA, h.ntB, ?_, h.st, h.bel⟩
  intro k hk e
  have := h.vb
  simp [Value.ownBlock] at hk e
  omega
theorem RsA.callA (h : RsA V z gs hv c4 hb c9 cur cur9 w W) (k : Nat) (hk0 : 0 < k) (hk1 : k ≤ 1400) :
    Calls Tryz.prog 93 #[.slice (some ⟨hv, 0, none⟩) 1 c4, .slice (some ⟨hv, 0, none⟩) 1 c4, .int .u64 k] W.drew (LhOk z hv (V * 2 ^ k) W.drew) :=
  lsh_one z V hv c4 k cur W.drew h.p0 h.p1 hk0 (by omega) (by have := blk_lt h.rk; simp; omega) (Nat.le_of_lt h.zv) h.a h.l4 h.m4 h.s4 h.o4
theorem RsA.callB (h : RsA V z gs hv c4 hb c9 cur cur9 w W) (k : Nat) (hk0 : 0 < k) (hk1 : k ≤ 1400) :
    Calls Tryz.prog 93 #[.slice (some ⟨hb, 0, none⟩) 1 c9, .slice (some ⟨hb, 0, none⟩) 1 c9, .int .u64 k] W.drew (LhOk z hb (1 * 2 ^ k) W.drew) :=
  lsh_one z 1 hb c9 k cur9 W.drew (by decide) (by decide) hk0 (by omega) (by have := blk_lt h.rk; simp; omega) (Nat.le_of_lt (Nat.lt_trans h.zv h.vb)) h.b h.l9 h.m9 h.s9 h.o9
theorem RsA.doneA (H : RsA V z gs hv c4 hb c9 cur cur9 w W) {k h i c : Nat} {w11 : World} (hh : h = hv ∨ W.drew.heap.size ≤ h) (hnt : Nt w11 z (.slice (some ⟨h, 0, none⟩) i c) (figs 18446744073709551616 (V * 2 ^ k))) (ho : W.drew.grownBy w11 (some hv)) :
    w11.cell? ⟨z, 1, none⟩ = some (.slice (some ⟨hv, 0, none⟩) 1 c4) ∧ w11.frozen? ⟨z, 1, none⟩ = false ∧ RsC (rNum V k) (rDen k) z gs w (w11.setCell ⟨z, 1, none⟩ (.slice (some ⟨h, 0, none⟩) i c)) := by
  have hzv := H.zv
  have hvb := H.vb
  have hz11 : Rk w11 z (.slice (some ⟨hv, 0, none⟩) 1 c4) (.slice (some ⟨hb, 0, none⟩) 1 c9) := (ho.block z (blk_lt H.rk) (by simp; omega)).trans H.rk
  have hs11 : w11.heap[gs]? = some (.cells #[.pointer none] 244 (0, 0)) := (ho.block gs (blk_lt H.st) (by simpa using blk_ne H.st H.a (by decide))).trans H.st
  have hb11 : w11.heap[hb]? = some (.cells cur9 167 (0, 0)) := (ho.block hb (blk_lt H.b) (by simp; omega)).trans H.b
  have hB11 : Below z w w11 := (below_drew H.bel).grown ho (Nat.le_of_lt (blk_lt H.rk)) (fun k hk => by have e := Option.some.inj hk; omega)
  have hhb : h ≠ hb := by have := blk_lt H.b; simp at hh; omega
  have hgz : gs ≠ z := blk_ne hs11 hz11 (by decide)
  have h1 : rNum V (k : Int) = V * 2 ^ k := by simp [rNum]
  have h2 : rDen (k : Int) = 1 := by simp [rDen]
  refine ⟨blk_cell hz11 1, blk_frozen hz11 _, ?_⟩
  rw [h1, h2]
  refine ⟨_, _, blk_put hz11 1 _ rfl, Nt_other (p := ⟨z, 1, none⟩) hnt hz11 (by decide) _, Nt_other (p := ⟨z, 1, none⟩) (Nt_one (Nat.le_of_lt (Nat.lt_trans hzv hvb)) hb11 H.l9 H.m9 H.s9 (by decide) (by decide) H.o9) hz11 (by decide) _, ?_, blk_far hs11 hgz _, hB11.setCell (p := ⟨z, 1, none⟩) (Nat.le_refl _) _⟩
  intro k hk e
  simp [Value.ownBlock] at hk e
  omega
theorem RsA.doneB (H : RsA V z gs hv c4 hb c9 cur cur9 w W) {k h i c : Nat} {w11 : World} (hh : h = hb ∨ W.drew.heap.size ≤ h) (hnt : Nt w11 z (.slice (some ⟨h, 0, none⟩) i c) (figs 18446744073709551616 (1 * 2 ^ k))) (ho : W.drew.grownBy w11 (some hb)) :
    w11.cell? ⟨z, 3, none⟩ = some (.slice (some ⟨hb, 0, none⟩) 1 c9) ∧ w11.frozen? ⟨z, 3, none⟩ = false ∧ RsC (rNum V (-(k : Int))) (rDen (-(k : Int))) z gs w (w11.setCell ⟨z, 3, none⟩ (.slice (some ⟨h, 0, none⟩) i c)) := by
  have hzv := H.zv
  have hvb := H.vb
  have hz11 : Rk w11 z (.slice (some ⟨hv, 0, none⟩) 1 c4) (.slice (some ⟨hb, 0, none⟩) 1 c9) := (ho.block z (blk_lt H.rk) (by simp; omega)).trans H.rk
  have hs11 : w11.heap[gs]? = some (.cells #[.pointer none] 244 (0, 0)) := (ho.block gs (blk_lt H.st) (by simpa using blk_ne H.st H.b (by decide))).trans H.st
  have ha11 : w11.heap[hv]? = some (.cells cur 167 (0, 0)) := (ho.block hv (blk_lt H.a) (by simp; omega)).trans H.a
  have hB11 : Below z w w11 := (below_drew H.bel).grown ho (Nat.le_of_lt (blk_lt H.rk)) (fun k hk => by have e := Option.some.inj hk; omega)
  have hhb : h ≠ hv := by have := blk_lt H.a; simp at hh; omega
  have hgz : gs ≠ z := blk_ne hs11 hz11 (by decide)
  have h1 : rNum V (-(k : Int)) = V := by
    have e : (-(k : Int)).toNat = 0 := by omega
    rw [rNum, e]; simp
  have h2 : rDen (-(k : Int)) = 1 * 2 ^ k := by simp [rDen]
  refine ⟨blk_cell hz11 3, blk_frozen hz11 _, ?_⟩
  rw [h1, h2]
  refine ⟨_, _, blk_put hz11 3 _ rfl, Nt_other (p := ⟨z, 3, none⟩) (Nt_one (Nat.le_of_lt hzv) ha11 H.l4 H.m4 H.s4 H.p0 H.p1 H.o4) hz11 (by decide) _, Nt_other (p := ⟨z, 3, none⟩) hnt hz11 (by decide) _, ?_, blk_far hs11 hgz _, hB11.setCell (p := ⟨z, 3, none⟩) (Nat.le_refl _) _⟩
  intro k hk e
  simp [Value.ownBlock] at hk e
  omega
end

theorem Rk.only {w w1 : World} {f g : Nat} {a b : Value} (h : Rk w f a b) (ho : w.grownBy w1 (some g)) (hne : f ≠ g) : Rk w1 f a b :=
  (ho.block f (blk_lt h) (by simpa using hne)).trans h

set_option maxHeartbeats 8000000 in
set_option maxRecDepth 100000 in
theorem ratSet_one (x : Int) (V q n z : Nat) (s : ByteArray) (pa : Addr) (w : World) (hV0 : 0 < V) (hV : V < 18446744073709551616) (hqn : q ≤ n) (hn : n ≤ 100) (hx0 : -1000 ≤ x) (hx1 : x ≤ 1000) (hz : Rk w z (.slice none 0 0) (.slice none 0 0)) (hz1 : 1 < z)
    (hs0 : 0 < s.size) (hs : s.size ≤ 100000) (h45 : bt s 0 ≠ 45) (h43 : bt s 0 ≠ 43) (h47 : ∀ i : Nat, i < s.size → bt s i ≠ 47) (hev : Eof w pa)
    (hscan : ∀ g W, 1 < g → RdAt W g s 0 (-1) → Eof W pa → g < W.heap.size → Calls Tryz.prog 109 #[.slice none 0 0, .iface 133 (.pointer (some ⟨g, 0, none⟩)), .int .i64 0, .bool true] W (SqOk q V n g s W))
    (hexp : ∀ g W, 1 < g → RdAt W g s (3 + n : Nat) (-1) → Eof W pa → g < W.heap.size → Calls Tryz.prog 112 #[.iface 133 (.pointer (some ⟨g, 0, none⟩)), .bool true, .bool true] W (XeOk x g s W)) :
    Calls Tryz.prog 73 #[.pointer (some ⟨z, 0, none⟩), .string s] w (RsetOk (rNum V (x + ((q : Int) - n) * 4) / Nat.gcd (rNum V (x + ((q : Int) - n) * 4)) (rDen (x + ((q : Int) - n) * 4))) (rDen (x + ((q : Int) - n) * 4) / Nat.gcd (rNum V (x + ((q : Int) - n) * 4)) (rDen (x + ((q : Int) - n) * 4))) z w) := by
  obtain ⟨D, hD⟩ : ∃ D, D = ((q : Int) - n) := ⟨_, rfl⟩
  obtain ⟨E, hE⟩ : ∃ E, E = x + ((q : Int) - n) * 4 := ⟨_, rfl⟩
  rw [← hE]
  have HDE := Aside0.mk (show D ≤ 0 ∧ -100 ≤ D ∧ E = D * 4 + x ∧ -1000 ≤ x ∧ x ≤ 1000 from ⟨by omega, by omega, by omega, hx0, hx1⟩)
  have n0 : ((s.size : Int) == 0) = false := beq_eq_false_iff_ne.mpr (by omega)
  have hzw : z < w.heap.size := blk_lt hz
  have HZZ := Aside0.mk (zz_none s w hs h47)
  have HNR := Lib.hid (fun W => newReader_any s W)
  have HSZ := Aside0.mk (And.intro hs0 (And.intro hs (And.intro h45 h43)))
  have HSC := Lib.hid hscan
  have HEX := Lib.hid hexp
  have HZ := Aside0.mk hz
  have HEV := Aside0.mk hev
  have HVV := Aside0.mk (And.intro hV0 hV)
  have HZ1 := Aside0.mk (And.intro hz1 hzw)
  have HDQ := Aside0.mk hD
  clear hV0 hV hz hz1 hs0 hs h45 h43 h47 hev hscan hexp hzw hD hE hqn hn hx0 hx1
  go_enter_defers Tryz.func73, Tryz.ntmps73
  go_wp2_with fail
  refine HZZ.out.mono ?_
  rintro e w1 ⟨rfl, hd⟩
  have hb1 := Drawn0.below hd
  have hl1 : w.heap.size ≤ w1.heap.size := hb1.size
  obtain ⟨W2, hW2⟩ : ∃ W, W = w1.alloc (.cells #[.string s, .int .i64 0, .int .i64 (-1)] 189) := ⟨_, rfl⟩
  obtain ⟨g, hg⟩ : ∃ g, g = w1.heap.size := ⟨_, rfl⟩
  have hr2 : RdAt W2 g s 0 (-1) := by rw [hW2, hg]; exact heap_alloc_new w1 _
  have hb2 : Below w.heap.size w W2 := by rw [hW2]; exact below_alloc hb1 _
  have hz2 : Rk W2 z (.slice none 0 0) (.slice none 0 0) := (hb2.block z HZ1.out.2).trans HZ.out
  have hzg : z < g := by rw [hg]; exact Nat.lt_of_lt_of_le HZ1.out.2 hl1
  have hg1 : 1 < g := Nat.lt_trans HZ1.out.1 hzg
  have he2 : Eof W2 pa := HEV.out.below hb2 (Nat.lt_trans HZ1.out.1 HZ1.out.2)
  have HSS := Aside0.mk (scanSign_none g s (-1) W2 HSZ.out.1 HSZ.out.2.1 HSZ.out.2.2.1 HSZ.out.2.2.2 hr2)
  have HNR1 := HNR.out w1
  rw [← hW2, ← hg] at HNR1
  have HNR2 := Aside0.mk HNR1
  have H2 := Aside0.mk (And.intro hz2 (And.intro hb2 (And.intro he2 (And.intro hzg hg1))))
  clear hd hb1 hl1 hr2 hb2 hz2 hzg hg1 he2 HNR1 hW2 hg HNR HZZ
  go_wp2_with fail
  refine HNR2.out.mono ?_
  rintro e w' ⟨rfl, rfl⟩
  go_wp2_with fail
  refine HSS.out.mono ?_
  rintro e w3 ⟨rfl, hr3, ho3⟩
  have hz3 := H2.out.1.only ho3 (Nat.ne_of_lt H2.out.2.2.2.1)
  have he3 : Eof w3 pa := H2.out.2.2.1.only ho3 H2.out.2.2.2.2
  have c31 : w3.cell? ⟨z, 1, none⟩ = some (.slice none 0 0) := blk_cell hz3 1
  have HS3 := Aside0.mk (HSC.out g w3 H2.out.2.2.2.2 hr3 he3 (blk_lt hr3))
  have hb3 : Below z w w3 := (H2.out.2.1.mono (Nat.le_of_lt HZ1.out.2)).grown ho3 (Nat.le_of_lt (blk_lt H2.out.1)) (fun k hk => by have e := Option.some.inj hk; have := H2.out.2.2.2.1; omega)
  have H3 := Aside0.mk (And.intro hz3 (And.intro he3 (And.intro hb3 (blk_lt hr3))))
  clear hr3 ho3 hz3 he3 hb3 HSS HNR2 HSC
  go_wp2_with fail
  refine HS3.out.mono ?_
  rintro e w4 ⟨v, rfl, hn4, hr4, ho4⟩
  obtain ⟨hv, c4, cur, hve, hhv, hgv, hcl, hc4, hcs, hcc⟩ := Nt_form hn4 (figs_ne (B := 18446744073709551616) (by decide) HVV.out.1)
  have hl1 : (figs 18446744073709551616 V).length = 1 := by rw [figs_one (by decide) HVV.out.1 HVV.out.2]; rfl
  have hcv : cur[0]? = some (.int .u64 (V : Int)) := by
    have e := hcc 0 (by rw [hl1]; decide)
    rw [figs_one (by decide) HVV.out.1 HVV.out.2] at e
    rw [← blk_cell hgv 0]; exact e
  rw [hl1] at hve hcl
  subst hve
  have hz4 := H3.out.1.only ho4 (Nat.ne_of_lt H2.out.2.2.2.1)
  have c41 : w4.cell? ⟨z, 1, none⟩ = some (.slice none 0 0) := blk_cell hz4 1
  have f41 : w4.frozen? ⟨z, 1, none⟩ = false := blk_frozen hz4 _
  have hz5 : Rk (w4.setCell ⟨z, 1, none⟩ (.slice (some ⟨hv, 0, none⟩) 1 c4)) z (.slice (some ⟨hv, 0, none⟩) 1 c4) (.slice none 0 0) := blk_put hz4 1 _ rfl
  have hzg := H2.out.2.2.2.1
  have hr5 : RdAt (w4.setCell ⟨z, 1, none⟩ (.slice (some ⟨hv, 0, none⟩) 1 c4)) g s (3 + n : Nat) (-1) := blk_far hr4 (Nat.ne_of_gt hzg) _
  have hE5 : Eof (w4.setCell ⟨z, 1, none⟩ (.slice (some ⟨hv, 0, none⟩) 1 c4)) pa := (World.cell?_of_block (Below.heap_setCell w4 ⟨z, 1, none⟩ _ 1 (show (1 : Nat) ≠ z by have := HZ1.out; omega))).trans (H3.out.2.1.only ho4 H2.out.2.2.2.2)
  have hgv2 : g < hv := Nat.lt_of_lt_of_le H3.out.2.2.2 hhv
  have hv5 : (w4.setCell ⟨z, 1, none⟩ (.slice (some ⟨hv, 0, none⟩) 1 c4)).heap[hv]? = some (.cells cur 167 (0, 0)) := blk_far hgv (by simp; omega) _
  have HX5 := Aside0.mk (HEX.out g _ H2.out.2.2.2.2 hr5 hE5 (blk_lt hr5))
  have hb5 : Below z w (w4.setCell ⟨z, 1, none⟩ (.slice (some ⟨hv, 0, none⟩) 1 c4)) := (H3.out.2.2.1.grown ho4 (Nat.le_of_lt (blk_lt H3.out.1)) (fun k hk => by have e := Option.some.inj hk; omega)).setCell (p := ⟨z, 1, none⟩) (Nat.le_refl _) _
  have H5 := Aside0.mk (And.intro hz5 (And.intro hE5 (And.intro hv5 (And.intro hcv (And.intro hgv2 (And.intro hb5 (And.intro hcl (And.intro hc4 hcs))))))))
  clear hz4 hz5 hr5 hE5 hn4 hr4 ho4 hhv hgv hcc hcv hgv2 hv5 hl1 hzg hb5 hcl hc4 hcs HS3 HEX c31
  go_wp2_with fail
  refine HX5.out.mono ?_
  rintro e w6 ⟨rfl, hr6, ho6⟩
  have hzg := H2.out.2.2.2.1
  have hz6 := H5.out.1.only ho6 (Nat.ne_of_lt hzg)
  have hv6 : w6.heap[hv]? = some (.cells cur 167 (0, 0)) := (ho6.block hv (blk_lt H5.out.2.2.1) (by have := H5.out.2.2.2.2.1; simp; omega)).trans H5.out.2.2.1
  have he6 : Eof w6 pa := H5.out.2.1.only ho6 H2.out.2.2.2.2
  have HRE := Aside0.mk (read_end g s s.size (-1) _ w6 HSZ.out.2.1 (Nat.le_refl _) HSZ.out.2.1 hr6 H2.out.2.2.2.2 he6)
  have hb6 : Below z w w6 := H5.out.2.2.2.2.2.1.grown ho6 (Nat.le_of_lt (blk_lt H5.out.1)) (fun k hk => by have e := Option.some.inj hk; omega)
  have H6 := Aside0.mk (And.intro hz6 (And.intro hv6 (And.intro he6 hb6)))
  have heq := fun W => eof_neq pa W
  clear hz6 hv6 he6 hb6 hzg hr6 ho6 HX5 c41 f41
  go_wp2_with fail
  refine HRE.out.mono ?_
  rintro e w7 ⟨rfl, -, ho7⟩
  have hzg := H2.out.2.2.2.1
  have hz7 := H6.out.1.only ho7 (Nat.ne_of_lt hzg)
  have hv7 : w7.heap[hv]? = some (.cells cur 167 (0, 0)) := (ho7.block hv (blk_lt H6.out.2.1) (by have := H5.out.2.2.2.2.1; simp; omega)).trans H6.out.2.1
  have hev7 : w7.cell? ⟨1, 0, none⟩ = some (.iface 279 (.pointer (some pa))) := H6.out.2.2.1.only ho7 H2.out.2.2.2.2
  have c71 : w7.cell? ⟨z, 1, none⟩ = some (.slice (some ⟨hv, 0, none⟩) 1 c4) := blk_cell hz7 1
  have hb7 : Below z w w7 := H6.out.2.2.2.grown ho7 (Nat.le_of_lt (blk_lt H6.out.1)) (fun k hk => by have e := Option.some.inj hk; omega)
  have H7 := Aside0.mk (And.intro hz7 (And.intro hv7 hb7))
  rw [← HDQ.out]
  clear hz7 hv7 hb7 hzg ho7 HRE
  go_upto_if 140 with (fail)
  go_cut [18, 19, 20] from 139 to 299 (fun v18 v19 _ W => v18 = .int .i64 (D * 4) ∧ v19 = .int .i64 0 ∧ W = w7)
  case first =>
    have h0 := HDE.out
    rcases Int.lt_or_le D 0 with hd | hd
    · have hd2 : -100 ≤ D := h0.2.1
      clear h0
      go_wp2_with fail
      go_meet
      exact ⟨rfl, rfl, rfl⟩
    · obtain rfl : D = 0 := by omega
      clear h0 hd
      go_wp2_with fail
      go_meet
      exact ⟨rfl, rfl, rfl⟩
  case rest =>
    obtain ⟨rfl, rfl, rfl⟩ := hcut
    obtain ⟨W8, hW8⟩ : ∃ W, W = wc.alloc (.cells #[.pointer none] 244) := ⟨_, rfl⟩
    obtain ⟨gs, hgs⟩ : ∃ g, g = wc.heap.size := ⟨_, rfl⟩
    have hb78 : Below wc.heap.size wc W8 := by rw [hW8]; exact below_alloc (Below.refl _ _) _
    have hz8 : Rk W8 z (.slice (some ⟨hv, 0, none⟩) 1 c4) (.slice none 0 0) := blk_below H7.out.1 hb78
    have hv8 : W8.heap[hv]? = some (.cells cur 167 (0, 0)) := blk_below H7.out.2.1 hb78
    have hs8 : W8.heap[gs]? = some (.cells #[.pointer none] 244 (0, 0)) := by rw [hW8, hgs]; exact heap_alloc_new wc _
    have hb8 : Below z w W8 := H7.out.2.2.trans (hb78.mono (Nat.le_of_lt (blk_lt H7.out.1)))
    have HGS0 := getStack_any wc
    rw [← hW8, ← hgs] at HGS0
    have HGS := Aside0.mk HGS0
    have c83 : W8.cell? ⟨z, 3, none⟩ = some (.slice none 0 0) := blk_cell hz8 3
    have HSW := Aside0.mk (setWord_any W8.heap.size 1 W8 (by decide) (Nat.le_refl _))
    have H8 := Aside0.mk (And.intro hz8 (And.intro hv8 (And.intro hs8 hb8)))
    have hx0 : -1000 ≤ x := HDE.out.2.2.2.1
    have hx1 : x ≤ 1000 := HDE.out.2.2.2.2
    have hd0 : D ≤ 0 := HDE.out.1
    have hd1 : -100 ≤ D := HDE.out.2.1
    clear hW8 hgs hb78 hz8 hv8 hs8 hb8 HGS0
    go_wp2_with fail
    refine HGS.out.mono ?_
    rintro e w' ⟨rfl, rfl⟩
    go_wp2_with fail
    refine HSW.out.mono ?_
    rintro e w9 ⟨v9, rfl, hn9, hb9⟩
    obtain ⟨hb, c9, cur9, hve9, hhb, hgb, hcl9, hc9, hcs9, hcc9⟩ := Nt_form hn9 (figs_ne (B := 18446744073709551616) (by decide) (by decide))
    have hcv9 : cur9[0]? = some (.int .u64 ((1 : Nat) : Int)) := by
      have e := hcc9 0 (by rw [len_one (by decide) (by decide)]; decide)
      rw [figs_one (by decide) (by decide) (by decide)] at e
      rw [← blk_cell hgb 0]; exact e
    rw [len_one (by decide) (by decide)] at hve9 hcl9
    subst hve9
    have hz9 : Rk w9 z (.slice (some ⟨hv, 0, none⟩) 1 c4) (.slice none 0 0) := blk_below H8.out.1 hb9
    have c93 : w9.cell? ⟨z, 3, none⟩ = some (.slice none 0 0) := blk_cell hz9 3
    have f93 : w9.frozen? ⟨z, 3, none⟩ = false := blk_frozen hz9 _
    obtain ⟨W10, hW10⟩ : ∃ W, W = w9.setCell ⟨z, 3, none⟩ (.slice (some ⟨hb, 0, none⟩) 1 c9) := ⟨_, rfl⟩
    have hz10 : Rk W10 z (.slice (some ⟨hv, 0, none⟩) 1 c4) (.slice (some ⟨hb, 0, none⟩) 1 c9) := by rw [hW10]; exact blk_put hz9 3 _ rfl
    have hzv : z < hv := Nat.lt_trans H2.out.2.2.2.1 H5.out.2.2.2.2.1
    have hvb : hv < hb := Nat.lt_of_lt_of_le (blk_lt H8.out.2.1) hhb
    have hv10 : W10.heap[hv]? = some (.cells cur 167 (0, 0)) := by rw [hW10]; exact blk_far (blk_below H8.out.2.1 hb9) (by simp; omega) _
    have hb10 : W10.heap[hb]? = some (.cells cur9 167 (0, 0)) := by rw [hW10]; exact blk_far hgb (by simp; omega) _
    have hsz : gs ≠ z := blk_ne H8.out.2.2.1 H8.out.1 (by decide)
    have hs10 : W10.heap[gs]? = some (.cells #[.pointer none] 244 (0, 0)) := by rw [hW10]; exact blk_far (blk_below H8.out.2.2.1 hb9) hsz _
    have hB10 : Below z w W10 := by rw [hW10]; exact (H8.out.2.2.2.trans (hb9.mono (Nat.le_of_lt (blk_lt H8.out.1)))).setCell (p := ⟨z, 3, none⟩) (Nat.le_refl _) _
    have hdx : D * 4 + x = E := HDE.out.2.2.1.symm
    have HW10 := Lib.hid hW10
    obtain ⟨m1, m2, m3, m4, m5, m6, m7, m8, m9⟩ := H5.out
    have H10 := Aside0.mk (RsA.mk (w := w) hz10 hv10 hb10 hs10 hB10 hzv hvb hcl9 hc9 hcs9 hcv9 m7 m8 m9 m4 HVV.out.1 HVV.out.2)
    clear m1 m2 m3 m4 m5 m6 m7 m8 m9
    have HDX := Lib.hid hdx
    clear hn9 hb9 hhb hgb hcl9 hc9 hcs9 hcc9 hcv9 hz9 hz10 hzv hvb hv10 hb10 hsz hs10 hB10 hdx hW10
    go_upto_if 245 with (fail)
    rw [← HW10.out, HDX.out]
    have hE0 : -1400 ≤ E ∧ E ≤ 1000 := by have := HDE.out; omega
    clear c93 f93 c83 hev7 c71 hx0 hx1 hd0 hd1 heq n0
    go_cut [18] from 238 to 299 (fun _ W => RsC (rNum V E) (rDen E) z gs w W)
    case first =>
      rcases int_split hE0 with rfl | ⟨k, rfl, hk0, hk1⟩ | ⟨k, rfl, hk0, hk1⟩
      · clear hE0
        go_wp2_with fail
        go_meet
        exact H10.out.zero
      · clear hE0
        have HK := Aside0.mk (And.intro hk0 hk1)
        have hk : (0 : Int) < k := by omega
        have hwk : IntKind.u64.wrap (k : Int) = k := by simp [IntKind.wrap, IntKind.bits, IntKind.signed]; omega
        have HWK := Lib.hid hwk
        clear hk0 hk1 hwk
        have c1 : W10.cell? ⟨z, 1, none⟩ = some (.slice (some ⟨hv, 0, none⟩) 1 c4) := blk_cell H10.out.rk 1
        have HLS := Aside0.mk (H10.out.callA k HK.out.1 HK.out.2)
        go_upto_region 76 with (fail)

        refine wp_region_noPanic ?_
        refine wp_region_held_drew (S := (fun _ => True)) (by kernel_rfl) ?_ (fun hHeld => ?_)
        · (try dsimp only); all_goals trivial
        refine wpAnyH_take (i := 0) (oi := ⟨some 246, _, _, _, _, _⟩) (v := ?_) rfl (by kernel_rfl) (by kernel_rfl) (by kernel_rfl) (fun _ _ _ h => h) (Or.inl ⟨by rfl, ?_⟩) (by assumption) ?_
        rotate_left
        · intro w hSw; (try dsimp only at hSw); go_simp; first | done | with_reducible rfl
        try simp only [Act.put, List.setIfInBounds_toArray, List.set_cons_zero, List.set_cons_succ]
        refine wpAnyH_take (i := 1) (oi := ⟨some 247, _, _, _, _, _⟩) (v := ?_) rfl (by kernel_rfl) (by kernel_rfl) (by kernel_rfl) (fun _ _ _ h => h) (Or.inl ⟨by rfl, ?_⟩) (by assumption) ?_
        rotate_left
        · intro w hSw; (try dsimp only at hSw); go_simp; first | done | with_reducible rfl
        try simp only [Act.put, List.setIfInBounds_toArray, List.set_cons_zero, List.set_cons_succ]
        refine wpAnyH_take (i := 2) (oi := ⟨some 248, _, _, _, _, _⟩) (v := ?_) rfl (by kernel_rfl) (by kernel_rfl) (by kernel_rfl) (fun _ _ _ h => h) (Or.inl ⟨by rfl, ?_⟩) (by assumption) ?_
        rotate_left
        · intro w hSw; (try dsimp only at hSw); go_simp; first | done | with_reducible rfl
        try simp only [Act.put, List.setIfInBounds_toArray, List.set_cons_zero, List.set_cons_succ]
        refine wpAnyH_take (i := 3) (oi := ⟨some 249, _, _, _, _, _⟩) (v := ?_) rfl (by kernel_rfl) (by kernel_rfl) (by kernel_rfl) (fun _ _ _ h => h) (Or.inl ⟨by rfl, ?_⟩) (by assumption) ?_
        rotate_left
        · intro w hSw; (try dsimp only at hSw); go_simp; first | done | with_reducible rfl
        try simp only [Act.put, List.setIfInBounds_toArray, List.set_cons_zero, List.set_cons_succ]
        refine wpAnyH_take (i := 4) (oi := ⟨some 250, _, _, _, _, _⟩) (v := ?_) rfl (by kernel_rfl) (by kernel_rfl) (by kernel_rfl) (fun _ _ _ h => h) (Or.inl ⟨by rfl, ?_⟩) (by assumption) ?_
        rotate_left
        · intro w hSw; (try dsimp only at hSw); go_simp; first | done | with_reducible rfl
        try simp only [Act.put, List.setIfInBounds_toArray, List.set_cons_zero, List.set_cons_succ]
        refine wpAnyH_take (i := 6) (oi := ⟨some 252, _, _, _, _, _⟩) (v := ?_) rfl (by kernel_rfl) (by kernel_rfl) (by kernel_rfl) (fun _ _ _ h => h) (Or.inl ⟨by rfl, ?_⟩) (by assumption) ?_
        rotate_left
        · intro w hSw; (try dsimp only at hSw); go_simp; first | done | with_reducible rfl
        try simp only [Act.put, List.setIfInBounds_toArray, List.set_cons_zero, List.set_cons_succ]
        refine wpAnyH_take (i := 7) (oi := ⟨some 253, _, _, _, _, _⟩) (v := ?_) rfl (by kernel_rfl) (by kernel_rfl) (by kernel_rfl) (fun _ _ _ h => h) (Or.inl ⟨by rfl, ?_⟩) (by assumption) ?_
        rotate_left
        · intro w hSw; (try dsimp only at hSw); go_simp; first | done | with_reducible rfl
        try simp only [Act.put, List.setIfInBounds_toArray, List.set_cons_zero, List.set_cons_succ]
        refine wpAnyH_take (i := 8) (oi := ⟨some 254, _, _, _, _, _⟩) (v := ?_) rfl (by kernel_rfl) (by kernel_rfl) (by kernel_rfl) (fun _ _ _ h => h) (Or.inl ⟨by rfl, ?_⟩) (by assumption) ?_
        rotate_left
        · intro w hSw; (try dsimp only at hSw); go_simp; first | done | with_reducible rfl
        try simp only [Act.put, List.setIfInBounds_toArray, List.set_cons_zero, List.set_cons_succ]
        refine wpAnyH_take (i := 9) (oi := ⟨some 255, _, _, _, _, _⟩) (v := ?_) rfl (by kernel_rfl) (by kernel_rfl) (by kernel_rfl) (fun _ _ _ h => h) (Or.inl ⟨by rfl, ?_⟩) (by assumption) ?_
        rotate_left
        · intro w hSw; (try dsimp only at hSw); go_simp; first | done | with_reducible rfl
        try simp only [Act.put, List.setIfInBounds_toArray, List.set_cons_zero, List.set_cons_succ]
        refine wpAnyH_take (i := 11) (oi := ⟨some 257, _, _, _, _, _⟩) (v := ?_) rfl (by kernel_rfl) (by kernel_rfl) (by kernel_rfl) (fun _ _ _ h => h) (Or.inl ⟨by rfl, ?_⟩) (by assumption) ?_
        rotate_left
        · intro w hSw; (try dsimp only at hSw); go_simp; first | done | with_reducible rfl
        try simp only [Act.put, List.setIfInBounds_toArray, List.set_cons_zero, List.set_cons_succ]
        refine wpAnyH_take (i := 12) (oi := ⟨some 258, _, _, _, _, _⟩) (v := ?_) rfl (by kernel_rfl) (by kernel_rfl) (by kernel_rfl) (fun _ _ _ h => h) (Or.inl ⟨by rfl, ?_⟩) (by assumption) ?_
        rotate_left
        · intro w hSw; (try dsimp only at hSw); go_simp; first | done | with_reducible rfl
        try simp only [Act.put, List.setIfInBounds_toArray, List.set_cons_zero, List.set_cons_succ]
        refine wpAnyH_ready (rs := [5, 10]) (by kernel_rfl) (by simp) ?_
        refine AllReadyH.cons rfl (fun K hK => ?_) (AllReadyH.cons rfl (fun K hK => ?_) AllReadyH.nil)
        · go_simp
          refine hK.out _ _ ?_ (fun hQ0 => ?_)
          · trivial
          clear hK K hHeld
          try simp only [Act.put, List.setIfInBounds_toArray, List.set_cons_zero, List.set_cons_succ]
          refine wpAnyH_ready (rs := [10]) (by kernel_rfl) (by simp) ?_
          refine AllReadyH.cons rfl (fun K hK => ?_) AllReadyH.nil
          go_simp
          refine hK.out _ _ ?_ (fun hQ00 => ?_)
          · trivial
          clear hK K hQ0
          try simp only [Act.put, List.setIfInBounds_toArray, List.set_cons_zero, List.set_cons_succ]
          refine wpAnyH_ready (rs := [13]) (by kernel_rfl) (by simp) ?_
          refine AllReadyH.cons rfl (fun K hK => ?_) AllReadyH.nil
          go_simp
          rw [HWK.out]
          refine HLS.out.mono ?_
          rintro e w11 ⟨h, i, c, rfl, hh, hnt, ho⟩
          obtain ⟨p1, pf1, hrs⟩ := H10.out.doneA hh hnt ho
          have HRS := Aside0.mk hrs
          clear hh hnt ho hrs
          go_wp2_with fail
          refine hK.out _ _ ?_ (fun hQ1 => ?_)
          · (try dsimp only); all_goals trivial
          clear hK K hQ00
          try simp only [Act.put, List.setIfInBounds_toArray, List.set_cons_zero, List.set_cons_succ]
          refine wpAnyH_take (i := 14) (oi := ⟨some 260, _, _, _, _, _⟩) (v := ?_) rfl (by kernel_rfl) (by kernel_rfl) (by kernel_rfl) (fun _ _ _ h => h) (Or.inl ⟨by rfl, ?_⟩) (by assumption) ?_
          rotate_left
          · intro w hSw; (try dsimp only at hSw); go_simp; first | done | with_reducible rfl
          try simp only [Act.put, List.setIfInBounds_toArray, List.set_cons_zero, List.set_cons_succ]
          refine wpAnyH_take (i := 15) (oi := ⟨some 261, _, _, _, _, _⟩) (v := ?_) rfl (by kernel_rfl) (by kernel_rfl) (by kernel_rfl) (fun _ _ _ h => h) (Or.inl ⟨by rfl, ?_⟩) (by assumption) ?_
          rotate_left
          · intro w hSw; (try dsimp only at hSw); go_simp; first | done | with_reducible rfl
          try simp only [Act.put, List.setIfInBounds_toArray, List.set_cons_zero, List.set_cons_succ]
          refine wpAnyH_take (i := 16) (oi := ⟨some 262, _, _, _, _, _⟩) (v := ?_) rfl (by kernel_rfl) (by kernel_rfl) (by kernel_rfl) (fun _ _ _ h => h) (Or.inl ⟨by rfl, ?_⟩) (by assumption) ?_
          rotate_left
          · intro w hSw; (try dsimp only at hSw); go_simp; first | done | with_reducible rfl
          try simp only [Act.put, List.setIfInBounds_toArray, List.set_cons_zero, List.set_cons_succ]
          refine wpAnyH_ready (rs := [17]) (by kernel_rfl) (by simp) ?_
          refine AllReadyH.cons rfl (fun K hK => ?_) AllReadyH.nil
          go_simp
          refine hK.out _ _ ?_ (fun hQ2 => ?_)
          · (try dsimp only); all_goals trivial
          clear hK K hQ1
          try simp only [Act.put, List.setIfInBounds_toArray, List.set_cons_zero, List.set_cons_succ]
          refine wpAnyH_done (by kernel_rfl) ?_ _
          refine NoPanic.normal ?_
          go_wp2_with fail
          go_meet
          exact HRS.out
        · go_simp
          refine hK.out _ _ ?_ (fun hQ0 => ?_)
          · trivial
          clear hK K hHeld
          try simp only [Act.put, List.setIfInBounds_toArray, List.set_cons_zero, List.set_cons_succ]
          refine wpAnyH_ready (rs := [5]) (by kernel_rfl) (by simp) ?_
          refine AllReadyH.cons rfl (fun K hK => ?_) AllReadyH.nil
          go_simp
          refine hK.out _ _ ?_ (fun hQ00 => ?_)
          · trivial
          clear hK K hQ0
          try simp only [Act.put, List.setIfInBounds_toArray, List.set_cons_zero, List.set_cons_succ]
          refine wpAnyH_ready (rs := [13]) (by kernel_rfl) (by simp) ?_
          refine AllReadyH.cons rfl (fun K hK => ?_) AllReadyH.nil
          go_simp
          rw [HWK.out]
          refine HLS.out.mono ?_
          rintro e w11 ⟨h, i, c, rfl, hh, hnt, ho⟩
          obtain ⟨p1, pf1, hrs⟩ := H10.out.doneA hh hnt ho
          have HRS := Aside0.mk hrs
          clear hh hnt ho hrs
          go_wp2_with fail
          refine hK.out _ _ ?_ (fun hQ1 => ?_)
          · (try dsimp only); all_goals trivial
          clear hK K hQ00
          try simp only [Act.put, List.setIfInBounds_toArray, List.set_cons_zero, List.set_cons_succ]
          refine wpAnyH_take (i := 14) (oi := ⟨some 260, _, _, _, _, _⟩) (v := ?_) rfl (by kernel_rfl) (by kernel_rfl) (by kernel_rfl) (fun _ _ _ h => h) (Or.inl ⟨by rfl, ?_⟩) (by assumption) ?_
          rotate_left
          · intro w hSw; (try dsimp only at hSw); go_simp; first | done | with_reducible rfl
          try simp only [Act.put, List.setIfInBounds_toArray, List.set_cons_zero, List.set_cons_succ]
          refine wpAnyH_take (i := 15) (oi := ⟨some 261, _, _, _, _, _⟩) (v := ?_) rfl (by kernel_rfl) (by kernel_rfl) (by kernel_rfl) (fun _ _ _ h => h) (Or.inl ⟨by rfl, ?_⟩) (by assumption) ?_
          rotate_left
          · intro w hSw; (try dsimp only at hSw); go_simp; first | done | with_reducible rfl
          try simp only [Act.put, List.setIfInBounds_toArray, List.set_cons_zero, List.set_cons_succ]
          refine wpAnyH_take (i := 16) (oi := ⟨some 262, _, _, _, _, _⟩) (v := ?_) rfl (by kernel_rfl) (by kernel_rfl) (by kernel_rfl) (fun _ _ _ h => h) (Or.inl ⟨by rfl, ?_⟩) (by assumption) ?_
          rotate_left
          · intro w hSw; (try dsimp only at hSw); go_simp; first | done | with_reducible rfl
          try simp only [Act.put, List.setIfInBounds_toArray, List.set_cons_zero, List.set_cons_succ]
          refine wpAnyH_ready (rs := [17]) (by kernel_rfl) (by simp) ?_
          refine AllReadyH.cons rfl (fun K hK => ?_) AllReadyH.nil
          go_simp
          refine hK.out _ _ ?_ (fun hQ2 => ?_)
          · (try dsimp only); all_goals trivial
          clear hK K hQ1
          try simp only [Act.put, List.setIfInBounds_toArray, List.set_cons_zero, List.set_cons_succ]
          refine wpAnyH_done (by kernel_rfl) ?_ _
          refine NoPanic.normal ?_
          go_wp2_with fail
          go_meet
          exact HRS.out

      · clear hE0
        have HK := Aside0.mk (And.intro hk0 hk1)
        have hk : (0 : Int) < k := by omega
        have hwk : IntKind.u64.wrap (k : Int) = k := by simp [IntKind.wrap, IntKind.bits, IntKind.signed]; omega
        have HWK := Lib.hid hwk
        have HWK2 := Lib.hid (show IntKind.i64.wrap (k : Int) = k by simp [IntKind.wrap, IntKind.bits, IntKind.signed]; omega)
        clear hk0 hk1 hwk
        have c1 : W10.cell? ⟨z, 3, none⟩ = some (.slice (some ⟨hb, 0, none⟩) 1 c9) := blk_cell H10.out.rk 3
        have HLS := Aside0.mk (H10.out.callB k HK.out.1 HK.out.2)
        go_upto_region 78 with (fail)

        refine wp_region_noPanic ?_
        refine wp_region_held_drew (S := (fun _ => True)) (by kernel_rfl) ?_ (fun hHeld => ?_)
        · (try dsimp only); all_goals trivial
        refine wpAnyH_take (i := 0) (oi := ⟨some 265, _, _, _, _, _⟩) (v := ?_) rfl (by kernel_rfl) (by kernel_rfl) (by kernel_rfl) (fun _ _ _ h => h) (Or.inl ⟨by rfl, ?_⟩) (by assumption) ?_
        rotate_left
        · intro w hSw; (try dsimp only at hSw); go_simp; first | done | with_reducible rfl
        try simp only [Act.put, List.setIfInBounds_toArray, List.set_cons_zero, List.set_cons_succ]
        refine wpAnyH_take (i := 1) (oi := ⟨some 266, _, _, _, _, _⟩) (v := ?_) rfl (by kernel_rfl) (by kernel_rfl) (by kernel_rfl) (fun _ _ _ h => h) (Or.inl ⟨by rfl, ?_⟩) (by assumption) ?_
        rotate_left
        · intro w hSw; (try dsimp only at hSw); go_simp; first | done | with_reducible rfl
        try simp only [Act.put, List.setIfInBounds_toArray, List.set_cons_zero, List.set_cons_succ]
        refine wpAnyH_take (i := 2) (oi := ⟨some 267, _, _, _, _, _⟩) (v := ?_) rfl (by kernel_rfl) (by kernel_rfl) (by kernel_rfl) (fun _ _ _ h => h) (Or.inl ⟨by rfl, ?_⟩) (by assumption) ?_
        rotate_left
        · intro w hSw; (try dsimp only at hSw); go_simp; first | done | with_reducible rfl
        try simp only [Act.put, List.setIfInBounds_toArray, List.set_cons_zero, List.set_cons_succ]
        refine wpAnyH_take (i := 3) (oi := ⟨some 268, _, _, _, _, _⟩) (v := ?_) rfl (by kernel_rfl) (by kernel_rfl) (by kernel_rfl) (fun _ _ _ h => h) (Or.inl ⟨by rfl, ?_⟩) (by assumption) ?_
        rotate_left
        · intro w hSw; (try dsimp only at hSw); go_simp; first | done | with_reducible rfl
        try simp only [Act.put, List.setIfInBounds_toArray, List.set_cons_zero, List.set_cons_succ]
        refine wpAnyH_take (i := 4) (oi := ⟨some 269, _, _, _, _, _⟩) (v := ?_) rfl (by kernel_rfl) (by kernel_rfl) (by kernel_rfl) (fun _ _ _ h => h) (Or.inl ⟨by rfl, ?_⟩) (by assumption) ?_
        rotate_left
        · intro w hSw; (try dsimp only at hSw); go_simp; first | done | with_reducible rfl
        try simp only [Act.put, List.setIfInBounds_toArray, List.set_cons_zero, List.set_cons_succ]
        refine wpAnyH_take (i := 6) (oi := ⟨some 271, _, _, _, _, _⟩) (v := ?_) rfl (by kernel_rfl) (by kernel_rfl) (by kernel_rfl) (fun _ _ _ h => h) (Or.inl ⟨by rfl, ?_⟩) (by assumption) ?_
        rotate_left
        · intro w hSw; (try dsimp only at hSw); go_simp; first | done | with_reducible rfl
        try simp only [Act.put, List.setIfInBounds_toArray, List.set_cons_zero, List.set_cons_succ]
        refine wpAnyH_take (i := 7) (oi := ⟨some 272, _, _, _, _, _⟩) (v := ?_) rfl (by kernel_rfl) (by kernel_rfl) (by kernel_rfl) (fun _ _ _ h => h) (Or.inl ⟨by rfl, ?_⟩) (by assumption) ?_
        rotate_left
        · intro w hSw; (try dsimp only at hSw); go_simp; first | done | with_reducible rfl
        try simp only [Act.put, List.setIfInBounds_toArray, List.set_cons_zero, List.set_cons_succ]
        refine wpAnyH_take (i := 8) (oi := ⟨some 273, _, _, _, _, _⟩) (v := ?_) rfl (by kernel_rfl) (by kernel_rfl) (by kernel_rfl) (fun _ _ _ h => h) (Or.inl ⟨by rfl, ?_⟩) (by assumption) ?_
        rotate_left
        · intro w hSw; (try dsimp only at hSw); go_simp; first | done | with_reducible rfl
        try simp only [Act.put, List.setIfInBounds_toArray, List.set_cons_zero, List.set_cons_succ]
        refine wpAnyH_take (i := 9) (oi := ⟨some 274, _, _, _, _, _⟩) (v := ?_) rfl (by kernel_rfl) (by kernel_rfl) (by kernel_rfl) (fun _ _ _ h => h) (Or.inl ⟨by rfl, ?_⟩) (by assumption) ?_
        rotate_left
        · intro w hSw; (try dsimp only at hSw); go_simp; first | done | with_reducible rfl
        try simp only [Act.put, List.setIfInBounds_toArray, List.set_cons_zero, List.set_cons_succ]
        refine wpAnyH_take (i := 11) (oi := ⟨some 276, _, _, _, _, _⟩) (v := ?_) rfl (by kernel_rfl) (by kernel_rfl) (by kernel_rfl) (fun _ _ _ h => h) (Or.inl ⟨by rfl, ?_⟩) (by assumption) ?_
        rotate_left
        · intro w hSw; (try dsimp only at hSw); go_simp; first | done | with_reducible rfl
        try simp only [Act.put, List.setIfInBounds_toArray, List.set_cons_zero, List.set_cons_succ]
        refine wpAnyH_take (i := 12) (oi := ⟨some 277, _, _, _, _, _⟩) (v := ?_) rfl (by kernel_rfl) (by kernel_rfl) (by kernel_rfl) (fun _ _ _ h => h) (Or.inl ⟨by rfl, ?_⟩) (by assumption) ?_
        rotate_left
        · intro w hSw; (try dsimp only at hSw); go_simp; first | done | with_reducible rfl
        try simp only [Act.put, List.setIfInBounds_toArray, List.set_cons_zero, List.set_cons_succ]
        refine wpAnyH_take (i := 13) (oi := ⟨some 278, _, _, _, _, _⟩) (v := ?_) rfl (by kernel_rfl) (by kernel_rfl) (by kernel_rfl) (fun _ _ _ h => h) (Or.inl ⟨by rfl, ?_⟩) (by assumption) ?_
        rotate_left
        · intro w hSw; (try dsimp only at hSw); go_simp; first | done | with_reducible rfl
        try simp only [Act.put, List.setIfInBounds_toArray, List.set_cons_zero, List.set_cons_succ]
        refine wpAnyH_ready (rs := [5, 10]) (by kernel_rfl) (by simp) ?_
        refine AllReadyH.cons rfl (fun K hK => ?_) (AllReadyH.cons rfl (fun K hK => ?_) AllReadyH.nil)
        · go_simp
          refine hK.out _ _ ?_ (fun hQ0 => ?_)
          · trivial
          clear hK K hHeld
          try simp only [Act.put, List.setIfInBounds_toArray, List.set_cons_zero, List.set_cons_succ]
          refine wpAnyH_ready (rs := [10]) (by kernel_rfl) (by simp) ?_
          refine AllReadyH.cons rfl (fun K hK => ?_) AllReadyH.nil
          go_simp
          refine hK.out _ _ ?_ (fun hQ00 => ?_)
          · trivial
          clear hK K hQ0
          try simp only [Act.put, List.setIfInBounds_toArray, List.set_cons_zero, List.set_cons_succ]
          refine wpAnyH_ready (rs := [14]) (by kernel_rfl) (by simp) ?_
          refine AllReadyH.cons rfl (fun K hK => ?_) AllReadyH.nil
          go_simp
          rw [HWK2.out, HWK.out]
          refine HLS.out.mono ?_
          rintro e w11 ⟨h, i, c, rfl, hh, hnt, ho⟩
          obtain ⟨p1, pf1, hrs⟩ := H10.out.doneB hh hnt ho
          have HRS := Aside0.mk hrs
          clear hh hnt ho hrs
          go_wp2_with fail
          refine hK.out _ _ ?_ (fun hQ1 => ?_)
          · (try dsimp only); all_goals trivial
          clear hK K hQ00
          try simp only [Act.put, List.setIfInBounds_toArray, List.set_cons_zero, List.set_cons_succ]
          refine wpAnyH_take (i := 15) (oi := ⟨some 280, _, _, _, _, _⟩) (v := ?_) rfl (by kernel_rfl) (by kernel_rfl) (by kernel_rfl) (fun _ _ _ h => h) (Or.inl ⟨by rfl, ?_⟩) (by assumption) ?_
          rotate_left
          · intro w hSw; (try dsimp only at hSw); go_simp; first | done | with_reducible rfl
          try simp only [Act.put, List.setIfInBounds_toArray, List.set_cons_zero, List.set_cons_succ]
          refine wpAnyH_take (i := 16) (oi := ⟨some 281, _, _, _, _, _⟩) (v := ?_) rfl (by kernel_rfl) (by kernel_rfl) (by kernel_rfl) (fun _ _ _ h => h) (Or.inl ⟨by rfl, ?_⟩) (by assumption) ?_
          rotate_left
          · intro w hSw; (try dsimp only at hSw); go_simp; first | done | with_reducible rfl
          try simp only [Act.put, List.setIfInBounds_toArray, List.set_cons_zero, List.set_cons_succ]
          refine wpAnyH_take (i := 17) (oi := ⟨some 282, _, _, _, _, _⟩) (v := ?_) rfl (by kernel_rfl) (by kernel_rfl) (by kernel_rfl) (fun _ _ _ h => h) (Or.inl ⟨by rfl, ?_⟩) (by assumption) ?_
          rotate_left
          · intro w hSw; (try dsimp only at hSw); go_simp; first | done | with_reducible rfl
          try simp only [Act.put, List.setIfInBounds_toArray, List.set_cons_zero, List.set_cons_succ]
          refine wpAnyH_ready (rs := [18]) (by kernel_rfl) (by simp) ?_
          refine AllReadyH.cons rfl (fun K hK => ?_) AllReadyH.nil
          go_simp
          refine hK.out _ _ ?_ (fun hQ2 => ?_)
          · (try dsimp only); all_goals trivial
          clear hK K hQ1
          try simp only [Act.put, List.setIfInBounds_toArray, List.set_cons_zero, List.set_cons_succ]
          refine wpAnyH_done (by kernel_rfl) ?_ _
          refine NoPanic.normal ?_
          go_wp2_with fail
          go_meet
          exact HRS.out
        · go_simp
          refine hK.out _ _ ?_ (fun hQ0 => ?_)
          · trivial
          clear hK K hHeld
          try simp only [Act.put, List.setIfInBounds_toArray, List.set_cons_zero, List.set_cons_succ]
          refine wpAnyH_ready (rs := [5]) (by kernel_rfl) (by simp) ?_
          refine AllReadyH.cons rfl (fun K hK => ?_) AllReadyH.nil
          go_simp
          refine hK.out _ _ ?_ (fun hQ00 => ?_)
          · trivial
          clear hK K hQ0
          try simp only [Act.put, List.setIfInBounds_toArray, List.set_cons_zero, List.set_cons_succ]
          refine wpAnyH_ready (rs := [14]) (by kernel_rfl) (by simp) ?_
          refine AllReadyH.cons rfl (fun K hK => ?_) AllReadyH.nil
          go_simp
          rw [HWK2.out, HWK.out]
          refine HLS.out.mono ?_
          rintro e w11 ⟨h, i, c, rfl, hh, hnt, ho⟩
          obtain ⟨p1, pf1, hrs⟩ := H10.out.doneB hh hnt ho
          have HRS := Aside0.mk hrs
          clear hh hnt ho hrs
          go_wp2_with fail
          refine hK.out _ _ ?_ (fun hQ1 => ?_)
          · (try dsimp only); all_goals trivial
          clear hK K hQ00
          try simp only [Act.put, List.setIfInBounds_toArray, List.set_cons_zero, List.set_cons_succ]
          refine wpAnyH_take (i := 15) (oi := ⟨some 280, _, _, _, _, _⟩) (v := ?_) rfl (by kernel_rfl) (by kernel_rfl) (by kernel_rfl) (fun _ _ _ h => h) (Or.inl ⟨by rfl, ?_⟩) (by assumption) ?_
          rotate_left
          · intro w hSw; (try dsimp only at hSw); go_simp; first | done | with_reducible rfl
          try simp only [Act.put, List.setIfInBounds_toArray, List.set_cons_zero, List.set_cons_succ]
          refine wpAnyH_take (i := 16) (oi := ⟨some 281, _, _, _, _, _⟩) (v := ?_) rfl (by kernel_rfl) (by kernel_rfl) (by kernel_rfl) (fun _ _ _ h => h) (Or.inl ⟨by rfl, ?_⟩) (by assumption) ?_
          rotate_left
          · intro w hSw; (try dsimp only at hSw); go_simp; first | done | with_reducible rfl
          try simp only [Act.put, List.setIfInBounds_toArray, List.set_cons_zero, List.set_cons_succ]
          refine wpAnyH_take (i := 17) (oi := ⟨some 282, _, _, _, _, _⟩) (v := ?_) rfl (by kernel_rfl) (by kernel_rfl) (by kernel_rfl) (fun _ _ _ h => h) (Or.inl ⟨by rfl, ?_⟩) (by assumption) ?_
          rotate_left
          · intro w hSw; (try dsimp only at hSw); go_simp; first | done | with_reducible rfl
          try simp only [Act.put, List.setIfInBounds_toArray, List.set_cons_zero, List.set_cons_succ]
          refine wpAnyH_ready (rs := [18]) (by kernel_rfl) (by simp) ?_
          refine AllReadyH.cons rfl (fun K hK => ?_) AllReadyH.nil
          go_simp
          refine hK.out _ _ ?_ (fun hQ2 => ?_)
          · (try dsimp only); all_goals trivial
          clear hK K hQ1
          try simp only [Act.put, List.setIfInBounds_toArray, List.set_cons_zero, List.set_cons_succ]
          refine wpAnyH_done (by kernel_rfl) ?_ _
          refine NoPanic.normal ?_
          go_wp2_with fail
          go_meet
          exact HRS.out

    case rest =>
      obtain ⟨a, b, hzA, hnA, hnB, hab, hsA, hBA⟩ := hcut
      have hsz : gs ≠ z := blk_ne hsA hzA (by decide)
      have q0 : wc.cell? ⟨z, 0, none⟩ = some (.bool false) := blk_cell hzA 0
      have qf0 : wc.frozen? ⟨z, 0, none⟩ = false := blk_frozen hzA _
      obtain ⟨W13, hW13⟩ : ∃ W, W = wc.setCell ⟨z, 0, none⟩ (.bool false) := ⟨_, rfl⟩
      have hz13 : Rk W13 z a b := by rw [hW13]; exact blk_put hzA 0 (.bool false) rfl
      have hA13 : Nt W13 z a (figs 18446744073709551616 (rNum V E)) := by rw [hW13]; exact Nt_other (p := ⟨z, 0, none⟩) hnA hzA (by decide) _
      have hB13 : Nt W13 z b (figs 18446744073709551616 (rDen E)) := by rw [hW13]; exact Nt_other (p := ⟨z, 0, none⟩) hnB hzA (by decide) _
      have hs13 : W13.heap[gs]? = some (.cells #[.pointer none] 244 (0, 0)) := by rw [hW13]; exact blk_far hsA hsz _
      have hb13 : Below z w W13 := by rw [hW13]; exact hBA.setCell (p := ⟨z, 0, none⟩) (Nat.le_refl _) _
      have HRN := Aside0.mk (ratNorm (rNum V E) (rDen E) z gs z a b W13 (rNum_pos HVV.out.1) rDen_pos (rOne HVV.out.2) hz13 hA13 hB13 hab (rNum_len HVV.out.2 hE0) (rDen_len hE0) (Nat.le_of_lt (blk_lt hz13)) (Nat.le_refl _) hs13)
      have HW13 := Lib.hid hW13
      have HB13 := Aside0.mk hb13
      clear hzA hnA hnB hab hsA hBA hsz hz13 hA13 hB13 hs13 hb13 hW13 H10 H8 H7 H6 H5 H3 H2 hE0
      go_wp2_with fail
      rw [← HW13.out]
      refine HRN.out.mono ?_
      rintro e w14 ⟨q', r', rfl, hzE, hqE, hrE, hBE, hsE⟩
      have HE14 := Aside0.mk (And.intro hzE (And.intro hqE (And.intro hrE (And.intro hBE hsE))))
      clear hzE hqE hrE hBE hsE
      go_wp2_with fail
      refine leaves_cons (f := 114) (args := #[.pointer (some ⟨gs, 0, none⟩)]) (by simp) (by simp [go_sem]) ?_
      refine (free_d gs _ _ HE14.out.2.2.2.2).mono ?_
      rintro e u' w'' ⟨rfl, rfl, rfl⟩
      exact ⟨_, results_tmp2 rfl _ _ _, rfl, q', r', HE14.out.1, HE14.out.2.1, HE14.out.2.2.1, HB13.out.trans HE14.out.2.2.2.1⟩
end Go.Proofs.YtgpoplfgngiilaaGreatDoor

namespace Go.Proofs.YtgpoplfgngiilaaGreatDoor
open Go.RowKit Go.Proofs.YtgpoplfgngiilaaGreatDoorW.PrintWords PAll Pl Dv

/-- scanExponent at the end of the text. -/
theorem xe_end (g : Nat) (s : ByteArray) (i : Nat) (pa : Addr) (w : World) (hs : s.size ≤ 100000) (hi : s.size ≤ i) (hi2 : i ≤ 100000) (hg : 1 < g) (hr : RdAt w g s i (-1)) (hev : Eof w pa) :
    Calls Tryz.prog 112 #[.iface 133 (.pointer (some ⟨g, 0, none⟩)), .bool true, .bool true] w fun e w' => e = .returned (.tuple #[.int .i64 0, .int .i64 10, .nilIface]) ∧ RdAt w' g s i (-1) ∧ w.grownBy w' (some g) := by
  have HR := Aside0.mk (read_end g s i (-1) _ w hs hi hi2 hr hg hev)
  have HEV := Aside0.mk hev
  have heq := fun W => eof_eql pa W
  clear hs hi hi2 hr hev
  go_enter Tryz.func112, Tryz.ntmps112
  go_wp2_with fail
  refine HR.out.mono ?_
  rintro e w1 ⟨rfl, hr1, ho1⟩
  have he1 : w1.cell? ⟨1, 0, none⟩ = some (.iface 279 (.pointer (some pa))) := HEV.out.only ho1 hg
  have H1 := Aside0.mk (And.intro hr1 ho1)
  clear hr1 ho1 HR
  go_wp2_with fail
  refine bodyPost_ret (results_tmp3 rfl _ _ _) rfl ?_
  exact ⟨rfl, H1.out.1, H1.out.2⟩

set_option maxHeartbeats 4000000 in
set_option maxRecDepth 100000 in
theorem scan_zero (g : Nat) (s : ByteArray) (pa : Addr) (w : World) (hs : s.size = 1) (h48 : bt s 0 = 48) (hg : 1 < g) (hgw : g < w.heap.size) (hr : RdAt w g s 0 (-1)) (hev : Eof w pa) :
    Calls Tryz.prog 109 #[.slice none 0 0, .iface 133 (.pointer (some ⟨g, 0, none⟩)), .int .i64 0, .bool true] w fun e w' => e = .returned (.tuple #[.slice none 0 0, .int .i64 10, .int .i64 1, .nilIface]) ∧ RdAt w' g s (1 : Nat) (-1) ∧ w.grownBy w' (some g) := by
  have H := Aside0.mk (read_some g s 0 (-1) w (by omega) (by omega) hr)
  have b1 : (bt s 0 == 48) = true := by simpa using h48
  have HEV := Aside0.mk hev
  have HSZ := Aside0.mk hs
  have heq := fun W => eof_eql pa W
  clear hr hev hs h48
  go_enter Tryz.func109, Tryz.ntmps109
  go_wp2_with fail
  refine H.out.mono ?_
  rintro e w1 ⟨rfl, hr, ho⟩
  have H2 := Aside0.mk (read_end g s (0 + 1 : Nat) (-1) _ w1 (by have := HSZ.out; omega) (by have := HSZ.out; omega) (by omega) hr hg (HEV.out.only ho hg))
  have HO1 := Aside0.mk ho
  clear hr ho
  go_wp2_with fail
  refine H2.out.mono ?_
  rintro e w2 ⟨rfl, hr, ho⟩
  have he2 : w2.cell? ⟨1, 0, none⟩ = some (.iface 279 (.pointer (some pa))) := HEV.out.only (only_trans HO1.out ho) hg
  have H3 := Aside0.mk (And.intro hr (only_trans HO1.out ho))
  clear hr ho H H2
  go_wp2_with fail
  refine (maxPow_10 _).mono ?_
  rintro e w' ⟨rfl, rfl⟩
  go_wp2_with fail
  go_loopw [0, 3, 10, 11, 13, 14, 15, 20, 21, 22] (fun z f c er pr iv ch di i dp W => z = .slice none 0 0 ∧ f = .bool true ∧ c = .int .i64 1 ∧ er = .iface 279 (.pointer (some pa)) ∧ pr = .int .i32 48 ∧ iv = .bool false ∧ ch = .int .u8 0 ∧ di = .int .u64 0 ∧ i = .int .i64 0 ∧ dp = .int .i64 (-1) ∧ W = w2) (fun _ _ _ _ _ _ _ _ _ _ _ => 0)
  case atStart => exact ⟨rfl, rfl, rfl, rfl, rfl, rfl, rfl, rfl, rfl, rfl, rfl⟩
  case round =>
    obtain ⟨rfl, rfl, rfl, rfl, rfl, rfl, rfl, rfl, rfl, rfl, rfl⟩ := hrel
    go_wp2_with fail
    refine bodyPost_ret (results_tmp4 rfl _ _ _) rfl ?_
    exact ⟨rfl, H3.out.1, H3.out.2⟩

/-- norm of 0. -/
theorem ratNorm_zero (g : Nat) (w : World) (hg : w.heap[g]? = some (.cells #[.bool false, .slice none 0 0, .bool false, .slice none 0 0] 165 (0, 0))) :
    Calls Tryz.prog 95 #[.pointer (some ⟨g, 0, none⟩)] w fun e w' => e = .returned (.pointer (some ⟨g, 0, none⟩)) ∧ ∃ a b, w'.heap[g]? = some (.cells #[.bool false, a, .bool false, b] 165 (0, 0)) ∧ Nt w' g a (figs 18446744073709551616 0) ∧ Nt w' g b (figs 18446744073709551616 1) ∧ Below g w w' := by
  have c0 : w.cell? ⟨g, 0, none⟩ = some (.bool false) := blk_cell hg 0
  have c1 : w.cell? ⟨g, 1, none⟩ = some (.slice none 0 0) := blk_cell hg 1
  have f0 : w.frozen? ⟨g, 0, none⟩ = false := blk_frozen hg _
  obtain ⟨W1, hW1⟩ : ∃ W, W = w.setCell ⟨g, 0, none⟩ (.bool false) := ⟨_, rfl⟩
  have hg1 : W1.heap[g]? = some (.cells #[.bool false, .slice none 0 0, .bool false, .slice none 0 0] 165 (0, 0)) := by rw [hW1]; exact blk_put hg 0 (.bool false) rfl
  have hb1 : Below g w W1 := by rw [hW1]; exact (Below.refl _ _).setCell (p := ⟨g, 0, none⟩) (Nat.le_refl _) _
  have c13 : W1.cell? ⟨g, 3, none⟩ = some (.slice none 0 0) := blk_cell hg1 3
  rw [hW1] at c13
  have hgl : g < W1.heap.size := blk_lt hg1
  have HSW := Aside0.mk (setWord_any W1.heap.size 1 W1 (by decide) (Nat.le_refl _))
  have H1 := Aside0.mk (And.intro hg1 (And.intro hb1 hgl))
  have HW1 := Lib.hid hW1
  clear hg hW1 hg1 hb1 hgl
  go_enter_defers Tryz.func95, Tryz.ntmps95
  go_wp2_with fail
  rw [← HW1.out]
  refine HSW.out.mono ?_
  rintro e w2 ⟨v, rfl, hn, hb2⟩
  obtain ⟨A, c, rfl⟩ := Nt_slice hn
  have hg2 := blk_below H1.out.1 hb2
  have c23 : w2.cell? ⟨g, 3, none⟩ = some (.slice none 0 0) := blk_cell hg2 3
  have f23 : w2.frozen? ⟨g, 3, none⟩ = false := blk_frozen hg2 _
  have H2 := Aside0.mk (And.intro hg2 (And.intro hn hb2))
  clear hn hb2 hg2 c0 c1 f0 c13
  go_wp2_with fail
  have hlv := Nt_low H2.out.2.1 (Nat.le_of_lt H1.out.2.2)
  refine ⟨_, results_tmp rfl _ _ _, rfl, _, _, blk_put H2.out.1 3 _ rfl, ?_, Nt_other (p := ⟨g, 3, none⟩) hlv H2.out.1 (by decide) _, (H1.out.2.1.trans (H2.out.2.2.mono (Nat.le_of_lt H1.out.2.2))).setCell (p := ⟨g, 3, none⟩) (Nat.le_refl _) _⟩
  rw [figs_zero]
  exact own_nil _ _ _ _

set_option maxHeartbeats 4000000 in
set_option maxRecDepth 100000 in
/-- SetString of the text of the one figure 0. -/
theorem ratSet_zero (z : Nat) (s : ByteArray) (pa : Addr) (w : World) (hs : s.size = 1) (h48 : bt s 0 = 48) (hz : w.heap[z]? = some (.cells #[.bool false, .slice none 0 0, .bool false, .slice none 0 0] 165 (0, 0))) (hz1 : 1 < z) (hev : Eof w pa) :
    Calls Tryz.prog 73 #[.pointer (some ⟨z, 0, none⟩), .string s] w (RsetOk 0 1 z w) := by
  have n0 : ((s.size : Int) == 0) = false := beq_eq_false_iff_ne.mpr (by omega)
  have hzw : z < w.heap.size := blk_lt hz
  have HZZ := Aside0.mk (zz_none s w (by omega) (fun i hi => by have : i = 0 := by omega
                                                                subst this
                                                                show bt s 0 ≠ 47
                                                                rw [h48]; decide))
  have HNR := Lib.hid (fun W => newReader_any s W)
  have HSZ := Aside0.mk (And.intro hs h48)
  have HZ := Aside0.mk hz
  have HEV := Aside0.mk hev
  have HZ1 := Aside0.mk (And.intro hz1 hzw)
  clear hz hz1 hs h48 hev hzw
  go_enter_defers Tryz.func73, Tryz.ntmps73
  go_wp2_with fail
  refine HZZ.out.mono ?_
  rintro e w1 ⟨rfl, hd⟩
  have hb1 := Drawn0.below hd
  have hl1 : w.heap.size ≤ w1.heap.size := hb1.size
  obtain ⟨W2, hW2⟩ : ∃ W, W = w1.alloc (.cells #[.string s, .int .i64 0, .int .i64 (-1)] 189) := ⟨_, rfl⟩
  obtain ⟨g, hg⟩ : ∃ g, g = w1.heap.size := ⟨_, rfl⟩
  have hr2 : RdAt W2 g s 0 (-1) := by rw [hW2, hg]; exact heap_alloc_new w1 _
  have hb2 : Below w.heap.size w W2 := by rw [hW2]; exact below_alloc hb1 _
  have hz2 : Rk W2 z (.slice none 0 0) (.slice none 0 0) := (hb2.block z HZ1.out.2).trans HZ.out
  have hzg : z < g := by rw [hg]; exact Nat.lt_of_lt_of_le HZ1.out.2 hl1
  have hg1 : 1 < g := Nat.lt_trans HZ1.out.1 hzg
  have he2 : Eof W2 pa := HEV.out.below hb2 (Nat.lt_trans HZ1.out.1 HZ1.out.2)
  have HSS := Aside0.mk (scanSign_none g s (-1) W2 (by have := HSZ.out.1; omega) (by have := HSZ.out.1; omega) (by rw [HSZ.out.2]; decide) (by rw [HSZ.out.2]; decide) hr2)
  have HNR1 := HNR.out w1
  rw [← hW2, ← hg] at HNR1
  have HNR2 := Aside0.mk HNR1
  have H2 := Aside0.mk (And.intro hz2 (And.intro hb2 (And.intro he2 (And.intro hzg hg1))))
  clear hd hb1 hl1 hr2 hb2 hz2 hzg hg1 he2 HNR1 hW2 hg HNR HZZ
  go_wp2_with fail
  refine HNR2.out.mono ?_
  rintro e w' ⟨rfl, rfl⟩
  go_wp2_with fail
  refine HSS.out.mono ?_
  rintro e w3 ⟨rfl, hr3, ho3⟩
  have hz3 : w3.heap[z]? = some (.cells #[.bool false, .slice none 0 0, .bool false, .slice none 0 0] 165 (0, 0)) := (ho3.block z (blk_lt H2.out.1) (by have := H2.out.2.2.2.1; simp; omega)).trans H2.out.1
  have he3 : Eof w3 pa := H2.out.2.2.1.only ho3 H2.out.2.2.2.2
  have c31 : w3.cell? ⟨z, 1, none⟩ = some (.slice none 0 0) := blk_cell hz3 1
  have HS3 := Aside0.mk (scan_zero g s pa w3 HSZ.out.1 HSZ.out.2 H2.out.2.2.2.2 (blk_lt hr3) hr3 he3)
  have hb3 : Below z w w3 := (H2.out.2.1.mono (Nat.le_of_lt HZ1.out.2)).grown ho3 (Nat.le_of_lt (blk_lt H2.out.1)) (fun k hk => by have e := Option.some.inj hk; have := H2.out.2.2.2.1; omega)
  have H3 := Aside0.mk (And.intro hz3 (And.intro he3 hb3))
  clear hr3 ho3 hz3 he3 hb3 HSS HNR2
  go_wp2_with fail
  refine HS3.out.mono ?_
  rintro e w4 ⟨rfl, hr4, ho4⟩
  have hzg := H2.out.2.2.2.1
  have hz4 : w4.heap[z]? = some (.cells #[.bool false, .slice none 0 0, .bool false, .slice none 0 0] 165 (0, 0)) := (ho4.block z (blk_lt H3.out.1) (by simp; omega)).trans H3.out.1
  have c41 : w4.cell? ⟨z, 1, none⟩ = some (.slice none 0 0) := blk_cell hz4 1
  have f41 : w4.frozen? ⟨z, 1, none⟩ = false := blk_frozen hz4 _
  have hz5 : (w4.setCell ⟨z, 1, none⟩ (.slice none 0 0)).heap[z]? = some (.cells #[.bool false, .slice none 0 0, .bool false, .slice none 0 0] 165 (0, 0)) := blk_put hz4 1 _ rfl
  have hr5 : RdAt (w4.setCell ⟨z, 1, none⟩ (.slice none 0 0)) g s (1 : Nat) (-1) := blk_far hr4 (Nat.ne_of_gt hzg) _
  have hE5 : Eof (w4.setCell ⟨z, 1, none⟩ (.slice none 0 0)) pa := (World.cell?_of_block (Below.heap_setCell w4 ⟨z, 1, none⟩ _ 1 (show (1 : Nat) ≠ z by have := HZ1.out; omega))).trans (H3.out.2.1.only ho4 H2.out.2.2.2.2)
  have HX5 := Aside0.mk (xe_end g s 1 pa _ (by have := HSZ.out.1; omega) (by have := HSZ.out.1; omega) (by omega) H2.out.2.2.2.2 hr5 hE5)
  have hb5 : Below z w (w4.setCell ⟨z, 1, none⟩ (.slice none 0 0)) := (H3.out.2.2.grown ho4 (Nat.le_of_lt (blk_lt H3.out.1)) (fun k hk => by have e := Option.some.inj hk; omega)).setCell (p := ⟨z, 1, none⟩) (Nat.le_refl _) _
  have H5 := Aside0.mk (And.intro hz5 (And.intro hE5 hb5))
  clear hz4 hz5 hr5 hE5 hr4 ho4 hzg hb5 HS3 c31
  go_wp2_with fail
  refine HX5.out.mono ?_
  rintro e w6 ⟨rfl, hr6, ho6⟩
  have hzg := H2.out.2.2.2.1
  have hz6 : w6.heap[z]? = some (.cells #[.bool false, .slice none 0 0, .bool false, .slice none 0 0] 165 (0, 0)) := (ho6.block z (blk_lt H5.out.1) (by simp; omega)).trans H5.out.1
  have he6 : Eof w6 pa := H5.out.2.1.only ho6 H2.out.2.2.2.2
  have HRE := Aside0.mk (read_end g s 1 (-1) _ w6 (by have := HSZ.out.1; omega) (by have := HSZ.out.1; omega) (by omega) hr6 H2.out.2.2.2.2 he6)
  have hb6 : Below z w w6 := H5.out.2.2.grown ho6 (Nat.le_of_lt (blk_lt H5.out.1)) (fun k hk => by have e := Option.some.inj hk; omega)
  have H6 := Aside0.mk (And.intro hz6 (And.intro he6 hb6))
  have heq := fun W => eof_neq pa W
  clear hz6 he6 hb6 hzg hr6 ho6 HX5 c41 f41
  go_wp2_with fail
  refine HRE.out.mono ?_
  rintro e w7 ⟨rfl, -, ho7⟩
  have hzg := H2.out.2.2.2.1
  have hz7 : w7.heap[z]? = some (.cells #[.bool false, .slice none 0 0, .bool false, .slice none 0 0] 165 (0, 0)) := (ho7.block z (blk_lt H6.out.1) (by simp; omega)).trans H6.out.1
  have hev7 : w7.cell? ⟨1, 0, none⟩ = some (.iface 279 (.pointer (some pa))) := H6.out.2.1.only ho7 H2.out.2.2.2.2
  have c71 : w7.cell? ⟨z, 1, none⟩ = some (.slice none 0 0) := blk_cell hz7 1
  have hb7 : Below z w w7 := H6.out.2.2.grown ho7 (Nat.le_of_lt (blk_lt H6.out.1)) (fun k hk => by have e := Option.some.inj hk; omega)
  have HRN := Aside0.mk (ratNorm_zero z w7 hz7)
  have HB7 := Aside0.mk hb7
  clear hz7 hb7 hzg ho7 HRE
  go_wp2_with fail
  refine HRN.out.mono ?_
  rintro e w8 ⟨rfl, a, b, hk, hA, hB, hb⟩
  have H8 := Aside0.mk (And.intro hk (And.intro hA (And.intro hB hb)))
  clear hk hA hB hb
  go_wp2_with fail
  refine ⟨_, results_tmp2 rfl _ _ _, rfl, a, b, H8.out.1, H8.out.2.1, H8.out.2.2.1, HB7.out.trans H8.out.2.2.2⟩
end Go.Proofs.YtgpoplfgngiilaaGreatDoor

namespace Go.Proofs.YtgpoplfgngiilaaGreatDoor
open Go.RowKit Go.Proofs.YtgpoplfgngiilaaGreatDoorW.PrintWords PAll Pl

theorem xe_of (x : Int) (sg t : ByteArray) (hE : ExT x sg t) (k : Nat) (s : ByteArray) (hs : s.size ≤ 100000) (hl : s.size = k + 1 + (sg ++ t).size) (hb : ∀ j, j < (sg ++ t).size → bt s (k + 1 + j : Nat) = bt (sg ++ t) j) :
    ∃ a pre, Xt a s t ∧ SgC a k s pre ∧ Lib.parseIntB 64 (strOfNums (pre ++ tb t t.size)).data.toList = .ok x := by
  have hsz : (sg ++ t).size = sg.size + t.size := ByteArray.size_append
  have hr : ∀ j, j < t.size → bt s (k + 1 + sg.size + j : Nat) = bt t j := fun j hj => by
    have h := hb (sg.size + j) (by omega)
    rw [show k + 1 + (sg.size + j) = k + 1 + sg.size + j by omega] at h
    rw [h]
    exact bt_right sg t j hj
  have hX : ∀ a, a = k + 1 + sg.size → Xt a s t := fun a ha => ⟨hs, by omega, fun j hj => by rw [ha]; exact hr j hj, hE.pos, hE.le, hE.fig⟩
  have h0 : 0 < sg.size → bt s (k + 1 : Nat) = bt sg 0 := fun h => by
    have h1 := hb 0 (by omega)
    rw [show k + 1 + 0 = k + 1 from rfl] at h1
    rw [h1]
    exact bt_left sg t 0 h
  rcases hE.way with ⟨rfl, hp⟩ | ⟨rfl | rfl, hp⟩
  · refine ⟨k + 2, [45], hX _ rfl, .inr (.inr ⟨rfl, by rw [h0 (by decide)]; rfl, rfl⟩), ?_⟩
    rw [strOfNums_data, List.map_append, tb_str]; exact hp
  · refine ⟨k + 2, [], hX _ rfl, .inr (.inl ⟨rfl, by rw [h0 (by decide)]; rfl, rfl⟩), ?_⟩
    rw [strOfNums_data, List.map_append, tb_str]; exact hp
  · refine ⟨k + 1, [], hX _ rfl, .inl ⟨rfl, rfl⟩, ?_⟩
    rw [strOfNums_data, List.map_append, tb_str]; exact hp
end Go.Proofs.YtgpoplfgngiilaaGreatDoor
