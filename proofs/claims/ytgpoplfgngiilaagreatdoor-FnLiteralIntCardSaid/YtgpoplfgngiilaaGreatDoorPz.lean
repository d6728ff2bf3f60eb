/- What nat.scan holds while it runs: figures gathered in groups; a text of figures with underscores; io.EOF. nat.scan at the bases that pack into words: what holds while it runs; Reverse, norm, rsh over a number of the call's own. Int.SetString at base 0, out of what nat.scan answers. -/
import Derived.Test.YtgpoplfgngiilaaGreatDoorNz
import Derived.Test.YtgpoplfgngiilaaGreatDoorPu
import Derived.LaidEql
set_option linter.unusedVariables false
set_option linter.unusedSimpArgs false
namespace Go.Proofs.YtgpoplfgngiilaaGreatDoor
open Go.RowKit Go.Proofs.YtgpoplfgngiilaaGreatDoorW.PrintWords PAll Pl

/-- The text that is scanned: figures of base b from place a on, underscores between; t is what stands there. -/
structure Tx (b a : Nat) (s t : ByteArray) : Prop where
  size : s.size ≤ 100000
  at_ : ∀ j : Nat, j < t.size → bt s (a + j : Nat) = bt t j
  len : s.size = a + t.size
  pos : 0 < t.size
  fig0 : isFig b (bt t 0) ∧ bt t 0 ≠ 48
  fig : ∀ j : Nat, j < t.size → (bt t j = 95 ∧ 0 < j ∧ bt t (j - 1 : Nat) ≠ 95 ∧ j + 1 < t.size) ∨ (bt t j ≠ 95 ∧ isFig b (bt t j))

/-- Groups of figures: Z holds the full ones, d the i figures behind them. -/
structure Gp (b : Nat) (t : ByteArray) (k Z i d : Nat) : Prop where
  eq : pv b t k = Z * b ^ i + d
  lt : d < b ^ i

theorem Gp.start (b : Nat) (t : ByteArray) : Gp b t 0 0 0 0 := ⟨by simp [pv], by simp⟩
theorem Gp.fig {b : Nat} {t : ByteArray} {k Z i d : Nat} (h : Gp b t k Z i d) (x : Nat) (hx : (dv (bt t k)).toNat = x) (hxb : x < b) (h95 : bt t k ≠ 95) : Gp b t (k + 1) Z (i + 1) (d * b + x) where
  eq := by rw [pv_fig b t k h95, h.eq, hx, Nat.pow_succ, Nat.add_mul, Nat.mul_assoc, Nat.add_assoc]
  lt := by
    have h1 : (d + 1) * b ≤ b ^ i * b := Nat.mul_le_mul_right b h.lt
    rw [Nat.add_mul] at h1
    rw [Nat.pow_succ]
    omega
theorem Gp.und {b : Nat} {t : ByteArray} {k Z i d : Nat} (h : Gp b t k Z i d) (h95 : bt t k = 95) : Gp b t (k + 1) Z i d := ⟨by rw [pv_und b t k h95, h.eq], h.lt⟩
theorem Gp.full {b : Nat} {t : ByteArray} {k Z n d : Nat} (h : Gp b t k Z n d) : Gp b t k (Z * b ^ n + d) 0 0 := ⟨by rw [h.eq]; simp, by simp⟩

theorem pv_lt {b : Nat} {t : ByteArray} (hb : 2 ≤ b) (hf : ∀ j : Nat, j < t.size → bt t j = 95 ∨ isFig b (bt t j)) : ∀ k, k ≤ t.size → pv b t k < b ^ k
  | 0, _ => by simp [pv]
  | k + 1, hk => by
    have ih := pv_lt hb hf k (by omega)
    rw [Nat.pow_succ]
    by_cases h95 : bt t k = 95
    · rw [pv_und b t k h95]
      exact Nat.lt_of_lt_of_le ih (Nat.le_mul_of_pos_right _ (by omega))
    · rw [pv_fig b t k h95]
      rcases hf k (by omega) with h | h
      · exact absurd h h95
      · have h1 : (pv b t k + 1) * b ≤ b ^ k * b := Nat.mul_le_mul_right b ih
        rw [Nat.add_mul] at h1
        have h2 := h.2
        have : (dv (bt t k)).toNat < b := by omega
        omega

theorem Tx.fig' {b a : Nat} {s t : ByteArray} (h : Tx b a s t) (j : Nat) (hj : j < t.size) : bt t j = 95 ∨ isFig b (bt t j) := by
  rcases h.fig j hj with h | h
  · exact .inl h.1
  · exact .inr h.2

theorem dv_pos {c : Int} (h : 48 ≤ c ∧ c ≤ 57 ∨ 65 ≤ c ∧ c ≤ 70 ∨ 97 ≤ c ∧ c ≤ 102) : 0 ≤ dv c ∧ (c ≠ 48 → 1 ≤ dv c) := by
  unfold dv; split
  · omega
  · split <;> omega

theorem Tx.pv_pos {b a : Nat} {s t : ByteArray} (h : Tx b a s t) (hb : 2 ≤ b) (k : Nat) (hk : 0 < k) : 1 ≤ pv b t k := by
  have h1 := pv_le b (by omega) t 1 k hk
  have h0 : bt t (0 : Nat) ≠ 95 := by
    have := h.fig0.1.1
    intro e
    have e' : bt t 0 = 95 := e
    omega
  have h2 : pv b t 1 = pv b t 0 * b + (dv (bt t 0)).toNat := pv_fig b t 0 h0
  have h3 := (dv_pos h.fig0.1.1).2 h.fig0.2
  have h4 : pv b t 0 = 0 := rfl
  rw [h4] at h2
  omega

/-- How many words a number has that was gathered out of k figures. -/
theorem Gp.words {b a : Nat} {s t : ByteArray} {k Z i d : Nat} (h : Gp b t k Z i d) (hT : Tx b a s t) (hb : 2 ≤ b) (hb2 : b ≤ 18446744073709551616) (hk : k ≤ t.size) : (figs 18446744073709551616 Z).length ≤ k := by
  refine figs_length_le (by decide) k Z ?_
  have h1 := pv_lt hb (fun j hj => hT.fig' j hj) k hk
  have h2 : Z ≤ pv b t k := by
    rw [h.eq]
    have : Z * 1 ≤ Z * b ^ i := Nat.mul_le_mul_left Z (Nat.pow_pos (by omega))
    omega
  exact Nat.lt_of_le_of_lt h2 (Nat.lt_of_lt_of_le h1 (Nat.pow_le_pow_left hb2 k))

theorem Nt_only {w w1 : World} {base g : Nat} {v : Value} {xs : List Int} (h : Nt w base v xs) (ho : w.grownBy w1 (some g)) (hg : g < base) : Nt w1 base v xs := by
  refine World.ownsRow.kept h ho ?_
  rcases hv : v.ownBlock with _ | k
  · exact .inl rfl
  · right
    intro e
    cases e
    have := World.ownsRow.lt h _ hv
    omega
theorem Rd_below {w w1 : World} {base g : Nat} {s : ByteArray} {i p : Int} (h : RdAt w g s i p) (hb : Below base w w1) (hg : g < base) : RdAt w1 g s i p := (hb.block g hg).trans h
theorem only_base {w W w1 : World} {g base : Nat} (h : w.grownBy W (some g)) (hb : Below base W w1) (hw : w.heap.size ≤ base) : w.grownBy w1 (some g) :=
  ⟨hb.os.trans h.os, hb.tape.trans h.tape, hb.output.trans h.output, Nat.le_trans h.size hb.size, fun i hi hne => (hb.block i (by omega)).trans (h.block i hi hne)⟩

/-- io.EOF, the value of variable 1. -/
def eofv (pa : Addr) : Value := .iface 279 (.pointer (some pa))
def Eof (w : World) (pa : Addr) : Prop := w.cell? ⟨1, 0, none⟩ = some (.iface 279 (.pointer (some pa)))
theorem Eof.only {w w1 : World} {pa : Addr} {g : Nat} (h : Eof w pa) (ho : w.grownBy w1 (some g)) (hg : 1 < g) : Eof w1 pa := by
  have hl := World.block_lt_of_cell? _ _ h
  exact (World.cell?_of_block (ho.block 1 hl (by intro e; cases e; omega))).trans h
theorem info279 : ∃ i, Tryz.prog.info? 279 = some i ∧ i.comparable = true := by
  have h : (Tryz.prog.info? 279).map (fun i => i.comparable) = some true := by kernel_rfl
  obtain ⟨i, hi, hc⟩ := Option.map_eq_some_iff.1 h
  exact ⟨i, hi, hc⟩
theorem info281 : ∃ j, Tryz.prog.info? 281 = some j ∧ j.size ≠ 0 := by
  have h : (Tryz.prog.info? 281).map (fun i => decide (i.size ≠ 0)) = some true := by kernel_rfl
  obtain ⟨i, hi, hc⟩ := Option.map_eq_some_iff.1 h
  exact ⟨i, hi, by simpa using hc⟩
theorem eof_eql (pa : Addr) (W : World) : (binOp .eql 85 (.iface 279 (.pointer (some pa))) (.iface 279 (.pointer (some pa)))).run Tryz.prog W = .ok (.bool true) W := by
  obtain ⟨i, hi, hc⟩ := info279
  obtain ⟨j, hj, _⟩ := info281
  exact run_eql_iface_ptr_same (P := Tryz.prog) (w := W) pa Tryz.underlying85 Tryz.underlying279 hi hc hj
theorem eof_neq (pa : Addr) (W : World) : (binOp .neq 85 (.iface 279 (.pointer (some pa))) (.iface 279 (.pointer (some pa)))).run Tryz.prog W = .ok (.bool false) W := by
  obtain ⟨i, hi, hc⟩ := info279
  obtain ⟨j, hj, _⟩ := info281
  simp only [binOp]
  simp [Op.equal, Op.maxDepth, run_equalIn_iface_ptr_same W 9998 pa Tryz.underlying85 Tryz.underlying279 hi hc hj]

/-- What holds at the head of scan's loop, the base no power of two that packs: Z is a number of its own words. -/
structure ScI (b a g : Nat) (s t : ByteArray) (base : Nat) (w W : World) (k Z i d : Nat) (v : Value) (pr : Int) (cnt : Nat) : Prop where
  k_le : k ≤ t.size
  gp : Gp b t k Z i d
  own : Nt W base v (figs 18446744073709551616 Z)
  nil_ : Z = 0 → v = .slice none 0 0
  only : w.grownBy W (some g)
  prev : 0 < k → (bt t (k - 1 : Nat) = 95 → pr = 95) ∧ (bt t (k - 1 : Nat) ≠ 95 → pr = 48)
  cnt_le : cnt ≤ k
  cnt_pos : 0 < k → 0 < cnt

theorem ScI.und {b a g : Nat} {s t : ByteArray} {base : Nat} {w W W2 : World} {k Z i d : Nat} {v : Value} {pr : Int} {cnt : Nat} (h : ScI b a g s t base w W k Z i d v pr cnt) (hk : k < t.size) (hk0 : 0 < k) (h95 : bt t k = 95) (ho : W.grownBy W2 (some g)) (hg : g < base) :
    ScI b a g s t base w W2 (k + 1) Z i d v 95 cnt :=
  ⟨hk, h.gp.und h95, Nt_only h.own ho hg, h.nil_, only_trans h.only ho, fun _ => ⟨fun _ => rfl, fun hn => absurd h95 hn⟩, by have := h.cnt_le; omega, fun _ => h.cnt_pos hk0⟩
theorem ScI.dig {b a g : Nat} {s t : ByteArray} {base : Nat} {w W W2 : World} {k Z i d : Nat} {v : Value} {pr : Int} {cnt : Nat} (h : ScI b a g s t base w W k Z i d v pr cnt) (hk : k < t.size) (x : Nat) (hx : (dv (bt t k)).toNat = x) (hxb : x < b) (h95 : bt t k ≠ 95) (ho : W.grownBy W2 (some g)) (hg : g < base) :
    ScI b a g s t base w W2 (k + 1) Z (i + 1) (d * b + x) v 48 (cnt + 1) :=
  ⟨hk, h.gp.fig x hx hxb h95, Nt_only h.own ho hg, h.nil_, only_trans h.only ho, fun _ => ⟨fun hn => absurd hn h95, fun _ => rfl⟩, by have := h.cnt_le; omega, fun _ => by omega⟩
theorem ScI.full {b a g : Nat} {s t : ByteArray} {base n : Nat} {w W W1 W2 : World} {k Z i d : Nat} {v v1 : Value} {pr : Int} {cnt : Nat} (h : ScI b a g s t base w W k Z i d v pr cnt) (hT : Tx b a s t) (hb : 2 ≤ b) (hk : k < t.size) (x : Nat) (hx : (dv (bt t k)).toNat = x) (hxb : x < b) (h95 : bt t k ≠ 95) (hi : i + 1 = n)
    (hv : Nt W1 base v1 (figs 18446744073709551616 (Z * b ^ n + (d * b + x)))) (hb1 : Below base W W1) (ho : W1.grownBy W2 (some g)) (hg : g < base) (hw : w.heap.size ≤ base) :
    ScI b a g s t base w W2 (k + 1) (Z * b ^ n + (d * b + x)) 0 0 v1 48 (cnt + 1) := by
  have hgp := h.gp.fig x hx hxb h95
  rw [hi] at hgp
  have hp := hT.pv_pos hb (k + 1) (by omega)
  rw [hgp.eq] at hp
  exact ⟨hk, hgp.full, Nt_only hv ho hg, fun h0 => by omega, only_trans (only_base h.only hb1 hw) ho, fun _ => ⟨fun hn => absurd hn h95, fun _ => rfl⟩, by have := h.cnt_le; omega, fun _ => by omega⟩

/-- The call of mulAddWW on a full group, and at the end. -/
theorem scan_mul {b a g : Nat} {s t : ByteArray} {base : Nat} {w W : World} {k Z i d : Nat} {v : Value} {pr : Int} {cnt : Nat} (h : ScI b a g s t base w W k Z i d v pr cnt) (hT : Tx b a s t) (hb : 2 ≤ b) (hb2 : b ≤ 100) (hw : w.heap.size ≤ base) (hbW : base ≤ W.heap.size)
    (y r : Nat) (hy0 : 0 < y) (hy : y < 18446744073709551616) (hr : r < 18446744073709551616) (hZr : Z = 0 → 0 < r) :
    Calls Tryz.prog 150 #[v, v, .int .u64 y, .int .u64 r] W (MwOk base Z y r W) := by
  rcases Nat.eq_zero_or_pos Z with h0 | hp
  · subst h0
    rw [h.nil_ rfl]
    exact mulAddWW_nil base r y W (hZr rfl) hr hbW
  · have hl := h.gp.words hT hb (by omega) h.k_le
    have := h.k_le
    have := hT.len
    have := hT.size
    exact mulAddWW_any base Z y r v W hp (by omega) hy0 hy hr hbW h.own

theorem ScI.start {b a g : Nat} {s t : ByteArray} {base : Nat} {w W : World} (ho : w.grownBy W (some g)) (pr : Int) : ScI b a g s t base w W 0 0 0 0 (.slice none 0 0) pr 0 :=
  ⟨Nat.zero_le _, Gp.start b t, by rw [figs_zero]; exact own_nil _ _ _ _, fun _ => rfl, ho, fun h => absurd h (by omega), Nat.le_refl _, fun h => absurd h (by omega)⟩
theorem ScI.drewN {b a g : Nat} {s t : ByteArray} {base : Nat} {w W : World} {k Z i d : Nat} {v : Value} {pr : Int} {cnt : Nat} (h : ScI b a g s t base w W k Z i d v pr cnt) (n : Nat) : ScI b a g s t base w (W.drewN n) k Z i d v pr cnt :=
  ⟨h.k_le, h.gp, pw_own_below h.own (pw_below_drewN (Below.refl _ _) n), h.nil_, only_drewN h.only n, h.prev, h.cnt_le, h.cnt_pos⟩
theorem ScI.next_pos {b a g : Nat} {s t : ByteArray} {base : Nat} {w W : World} {k Z i d : Nat} {v : Value} {pr : Int} {cnt : Nat} (h : ScI b a g s t base w W k Z i d v pr cnt) (hT : Tx b a s t) (hb : 2 ≤ b) (hk : k < t.size) (x : Nat) (hx : (dv (bt t k)).toNat = x) (hxb : x < b) (h95 : bt t k ≠ 95) : Z = 0 → 0 < d * b + x := by
  intro h0
  have hgp := (h.gp.fig x hx hxb h95).eq
  have hp := hT.pv_pos hb (k + 1) (by omega)
  rw [hgp, h0, Nat.zero_mul, Nat.zero_add] at hp
  exact hp
theorem ScI.end_pos {b a g : Nat} {s t : ByteArray} {base : Nat} {w W : World} {Z i d : Nat} {v : Value} {pr : Int} {cnt : Nat} (h : ScI b a g s t base w W t.size Z i d v pr cnt) (hT : Tx b a s t) (hb : 2 ≤ b) : Z = 0 → 0 < d := by
  intro h0
  have hgp := h.gp.eq
  have hp := hT.pv_pos hb t.size hT.pos
  rw [hgp, h0, Nat.zero_mul, Nat.zero_add] at hp
  exact hp
theorem ScI.end0 {b a g : Nat} {s t : ByteArray} {base : Nat} {w W : World} {Z d : Nat} {v : Value} {pr : Int} {cnt : Nat} (h : ScI b a g s t base w W t.size Z 0 d v pr cnt) : Nt W base v (figs 18446744073709551616 (pv b t t.size)) := by
  have h1 := h.gp.lt
  have h2 := h.gp.eq
  rw [Nat.pow_zero] at h1 h2
  rw [h2, Nat.mul_one, show d = 0 by omega, Nat.add_zero]
  exact h.own
theorem Tx.last {b a : Nat} {s t : ByteArray} (h : Tx b a s t) : bt t (t.size - 1 : Nat) ≠ 95 := by
  have hp := h.pos
  rcases h.fig (t.size - 1) (by omega) with h1 | h1
  · omega
  · exact h1.1
theorem Eof.below {w w1 : World} {pa : Addr} {base : Nat} (h : Eof w pa) (hb : Below base w w1) (hg : 1 < base) : Eof w1 pa := (World.cell?_of_block (hb.block 1 hg)).trans h

/-- What is at hand: the next byte, or the end. -/
def ScH (a g : Nat) (s t : ByteArray) (pa : Addr) (W : World) (k : Nat) (er ch : Value) : Prop :=
  (k < t.size → er = .nilIface ∧ ch = .int .u8 (bt t k) ∧ RdAt W g s (a + k + 1 : Nat) (-1)) ∧ (k = t.size → er = .iface 279 (.pointer (some pa)) ∧ ch = .int .u8 0 ∧ RdAt W g s s.size (-1))
theorem ScH.first {a g : Nat} {s t : ByteArray} {pa : Addr} {W : World} (hp : 0 < t.size) (hr : RdAt W g s (a + 1 : Nat) (-1)) : ScH a g s t pa W 0 .nilIface (.int .u8 (bt t 0)) :=
  ⟨fun _ => ⟨rfl, rfl, hr⟩, fun h => by omega⟩
structure RdS (a g : Nat) (s : ByteArray) (k : Nat) (W : World) : Prop where out : RdAt W g s (a + k + 1 : Nat) (-1)
theorem RdS.some {a g : Nat} {s t : ByteArray} {pa : Addr} {W : World} {k : Nat} (h : RdS a g s (k + 1) W) (hk : k + 1 < t.size) : ScH a g s t pa W (k + 1) .nilIface (.int .u8 (bt t (k + 1 : Nat))) :=
  ⟨fun _ => ⟨rfl, rfl, h.out⟩, fun h => by omega⟩
structure RdE (g : Nat) (s : ByteArray) (W : World) : Prop where out : RdAt W g s s.size (-1)
theorem RdE.none {a g : Nat} {s t : ByteArray} {pa : Addr} {W : World} {k : Nat} (h : RdE g s W) (hk : k + 1 = t.size) : ScH a g s t pa W (k + 1) (.iface 279 (.pointer (some pa))) (.int .u8 0) :=
  ⟨fun h => by omega, fun _ => ⟨rfl, rfl, h.out⟩⟩

theorem scan_next {b : Nat} (a g : Nat) (s t : ByteArray) (k : Nat) (W : World) (hT : Tx b a s t) (hk : k + 1 < t.size) (hr : RdAt W g s (a + k + 1 : Nat) (-1)) :
    Calls Tryz.prog 110 #[.pointer (some ⟨g, 0, none⟩)] W fun e w' => e = .returned (.tuple #[.int .u8 (bt t (k + 1 : Nat)), .nilIface]) ∧ RdS a g s (k + 1) w' ∧ W.grownBy w' (some g) := by
  refine (read_some g s (a + k + 1) (-1) W hT.size (by have := hT.len; omega) hr).mono ?_
  rintro e w' ⟨rfl, h1, h2⟩
  refine ⟨?_, ⟨h1⟩, h2⟩
  rw [← hT.at_ (k + 1) hk]
  rfl
theorem scan_last {b : Nat} (a g : Nat) (s t : ByteArray) (k : Nat) (pa : Addr) (W : World) (hT : Tx b a s t) (hk : k + 1 = t.size) (hr : RdAt W g s (a + k + 1 : Nat) (-1)) (hg : 1 < g) (hev : Eof W pa) :
    Calls Tryz.prog 110 #[.pointer (some ⟨g, 0, none⟩)] W fun e w' => e = .returned (.tuple #[.int .u8 0, .iface 279 (.pointer (some pa))]) ∧ RdE g s w' ∧ W.grownBy w' (some g) := by
  have hl := hT.len
  have hs := hT.size
  refine (read_end g s (a + k + 1) (-1) _ W hT.size (by omega) (by omega) hr hg hev).mono ?_
  rintro e w' ⟨rfl, h1, h2⟩
  refine ⟨rfl, ⟨?_⟩, h2⟩
  rw [show s.size = a + k + 1 by omega]
  exact h1

theorem gp_room {b n j d : Nat} (hb : 1 ≤ b) (hj : j < n) (h : d < b ^ j) : d * b + b ≤ b ^ n := by
  have h1 : (d + 1) * b ≤ b ^ j * b := Nat.mul_le_mul_right b h
  rw [Nat.add_mul, Nat.one_mul, ← Nat.pow_succ] at h1
  exact Nat.le_trans h1 (Nat.pow_le_pow_right hb hj)
theorem gp_room10 {j d : Nat} (hj : j < 19) (h : d < 10 ^ j) : (d : Int) * 10 + 10 ≤ 10000000000000000000 := by have := gp_room (by decide) hj h; omega
theorem gp_room8 {j d : Nat} (hj : j < 21) (h : d < 8 ^ j) : (d : Int) * 8 + 8 ≤ 9223372036854775808 := by have := gp_room (by decide) hj h; omega
theorem gp_room16 {j d : Nat} (hj : j < 16) (h : d < 16 ^ j) : (d : Int) * 16 + 16 ≤ 18446744073709551616 := by have := gp_room (by decide) hj h; omega
theorem gp_room2 {j d : Nat} (hj : j < 64) (h : d < 2 ^ j) : (d : Int) * 2 + 2 ≤ 18446744073709551616 := by have := gp_room (by decide) hj h; omega
theorem fig_low {b : Nat} {c : Int} (hb : b ≤ 10) (h : 48 ≤ c ∧ c ≤ 57 ∨ 65 ≤ c ∧ c ≤ 70 ∨ 97 ≤ c ∧ c ≤ 102) (hd : dv c < b) : 48 ≤ c ∧ c ≤ 47 + b := by
  unfold dv at hd
  split at hd
  · omega
  · split at hd <;> omega
theorem fig_low10 {c : Int} (h : 48 ≤ c ∧ c ≤ 57 ∨ 65 ≤ c ∧ c ≤ 70 ∨ 97 ≤ c ∧ c ≤ 102) (hd : dv c < (10 : Nat)) : 48 ≤ c ∧ c ≤ 57 := fig_low (by decide) h hd
theorem fig_low8 {c : Int} (h : 48 ≤ c ∧ c ≤ 57 ∨ 65 ≤ c ∧ c ≤ 70 ∨ 97 ≤ c ∧ c ≤ 102) (hd : dv c < (8 : Nat)) : 48 ≤ c ∧ c ≤ 55 := fig_low (by decide) h hd
theorem fig_low2 {c : Int} (h : 48 ≤ c ∧ c ≤ 57 ∨ 65 ≤ c ∧ c ≤ 70 ∨ 97 ≤ c ∧ c ≤ 102) (hd : dv c < (2 : Nat)) : 48 ≤ c ∧ c ≤ 49 := fig_low (by decide) h hd
theorem pow_small10 {j : Nat} (hj : j < 19) : 10 ^ j < 18446744073709551616 := Nat.lt_of_le_of_lt (Nat.pow_le_pow_right (by decide) (Nat.le_of_lt hj)) (by decide : 10 ^ 19 < 18446744073709551616)
theorem pow_small8 {j : Nat} (hj : j < 21) : 8 ^ j < 18446744073709551616 := Nat.lt_of_le_of_lt (Nat.pow_le_pow_right (by decide) (Nat.le_of_lt hj)) (by decide : 8 ^ 21 < 18446744073709551616)
theorem ScI.d_small10 {a g : Nat} {s t : ByteArray} {base : Nat} {w W : World} {k Z i d : Nat} {v : Value} {pr : Int} {cnt : Nat} (h : ScI 10 a g s t base w W k Z i d v pr cnt) (hi : i < 19) : d < 18446744073709551616 := Nat.lt_trans h.gp.lt (pow_small10 hi)
theorem ScI.d_small8 {a g : Nat} {s t : ByteArray} {base : Nat} {w W : World} {k Z i d : Nat} {v : Value} {pr : Int} {cnt : Nat} (h : ScI 8 a g s t base w W k Z i d v pr cnt) (hi : i < 21) : d < 18446744073709551616 := Nat.lt_trans h.gp.lt (pow_small8 hi)

/-- What scan answers. -/
def ScOk (b V g : Nat) (s : ByteArray) (w : World) (e : Ending) (w' : World) : Prop :=
  ∃ (v : Value) (c : Int), e = .returned (.tuple #[v, .int .i64 b, .int .i64 c, .nilIface]) ∧ Nt w' w.heap.size v (figs 18446744073709551616 V) ∧ RdAt w' g s s.size (-1) ∧ w.grownBy w' (some g)
end Go.Proofs.YtgpoplfgngiilaaGreatDoor

namespace Go.Proofs.YtgpoplfgngiilaaGreatDoor
open Go.RowKit Go.Proofs.YtgpoplfgngiilaaGreatDoorW.PrintWords PAll Pl

theorem reverse_nt (base : Nat) (v : Value) (ws : List Int) (w : World) (hne : ws ≠ []) (hl : ws.length ≤ 100000) (hb : base ≤ w.heap.size) (ho : Nt w base v ws) :
    Calls Tryz.prog 152 #[v] w fun e w' => e = .returned (.tuple #[]) ∧ Nt w' base v ws.reverse ∧ Below base w w' := by
  obtain ⟨g, cap, cur, rfl, hbg, hg, hn, hcap, hs, hc⟩ := Nt_form ho hne
  refine (reverse_any g cap ws.length ws cur w (List.length_pos_iff.2 hne) hl hn rfl hg (by omega) hc).mono ?_
  rintro e w' ⟨rfl, cs', h1, h2, h3, h4⟩
  refine ⟨rfl, ?_, (Below.refl base w).grown h4 hb (fun k hk => by cases hk; exact hbg)⟩
  have := Nt_mk (w := w') (base := base) (g := g) (cap := cap) (cur := cs') (xs := ws.reverse) hbg h2 (by simpa using hn) hcap (by omega) (fun i hi => h3 i (by simpa using hi))
  rwa [List.length_reverse] at this

theorem norm_nt (base : Nat) (v : Value) (xs : List Int) (w : World) (hne : xs ≠ []) (hd : Dg (18446744073709551616 : Nat) xs) (ho : Nt w base v xs) :
    Calls Tryz.prog 134 #[v] w fun e w' => ∃ v', e = .returned v' ∧ Nt w base v' (figs 18446744073709551616 (val (18446744073709551616 : Nat) xs).toNat) ∧ w = w' := by
  obtain ⟨g, cap, cur, rfl, hbg, hg, hn, hcap, hs, hc⟩ := Nt_form ho hne
  refine (norm_any g cap xs.length xs w hn (by have := List.length_pos_iff.2 hne; omega) hcap hc).mono ?_
  rintro e w' ⟨i, hi, hz, ht, rfl, rfl⟩
  refine ⟨_, rfl, ?_, rfl⟩
  rw [← figs_of_trim (B := 18446744073709551616) (by decide) hd i hi hz ht]
  have hli : (xs.take i).length = i := by rw [List.length_take]; omega
  have hk := Nt_mk (w := w) (base := base) (g := g) (cap := cap) (cur := cur) (xs := xs.take i) hbg hg (by omega) hcap hs (fun j hj => by
    rw [hli] at hj
    rw [← blk_cell hg j, hc j (by omega)]
    simp [List.getD_eq_getElem?_getD, hj])
  rw [hli] at hk
  exact hk

theorem rsh_nt (base V s : Nat) (v : Value) (w : World) (hV : 0 < V) (hl : (figs 18446744073709551616 V).length ≤ 100000) (hs0 : 0 < s) (hs : s < 64) (hb : base ≤ w.heap.size) (ho : Nt w base v (figs 18446744073709551616 V)) :
    Calls Tryz.prog 153 #[v, v, .int .u64 s] w (RhOk base (V / 2 ^ s) w) := by
  have hne := figs_ne (B := 18446744073709551616) (by decide) hV
  obtain ⟨g, cap, cur, rfl, hbg, hg, hn, hcap, hsz, hc⟩ := Nt_form ho hne
  have h := rsh_any base g cap _ s _ cur w (List.length_pos_iff.2 hne) hl hs0 hs hb hbg hg hn hcap hsz hc rfl (figs_Dg (by decide) V)
  rw [figs_val (by decide), Int.toNat_natCast] at h
  exact h

/-- What holds at the head of scan's loop, the base one that packs: ws are the full words, the highest first. -/
structure ScP (b a g : Nat) (s t : ByteArray) (base : Nat) (w W : World) (k Z i d : Nat) (ws : List Int) (v : Value) (pr : Int) (cnt : Nat) : Prop where
  k_le : k ≤ t.size
  gp : Gp b t k Z i d
  own : Nt W base v ws
  dg : Dg (18446744073709551616 : Nat) ws
  val_ : val (18446744073709551616 : Nat) ws.reverse = Z
  len : ws.length ≤ k
  only : w.grownBy W (some g)
  prev : 0 < k → (bt t (k - 1 : Nat) = 95 → pr = 95) ∧ (bt t (k - 1 : Nat) ≠ 95 → pr = 48)
  cnt_le : cnt ≤ k
  cnt_pos : 0 < k → 0 < cnt

theorem ScP.start {b a g : Nat} {s t : ByteArray} {base : Nat} {w W : World} (ho : w.grownBy W (some g)) (pr : Int) : ScP b a g s t base w W 0 0 0 0 [] (.slice none 0 0) pr 0 :=
  ⟨Nat.zero_le _, Gp.start b t, own_nil _ _ _ _, Dg_nil _, rfl, Nat.le_refl _, ho, fun h => absurd h (by omega), Nat.le_refl _, fun h => absurd h (by omega)⟩
theorem ScP.drewN {b a g : Nat} {s t : ByteArray} {base : Nat} {w W : World} {k Z i d : Nat} {ws : List Int} {v : Value} {pr : Int} {cnt : Nat} (h : ScP b a g s t base w W k Z i d ws v pr cnt) (n : Nat) : ScP b a g s t base w (W.drewN n) k Z i d ws v pr cnt :=
  ⟨h.k_le, h.gp, pw_own_below h.own (pw_below_drewN (Below.refl _ _) n), h.dg, h.val_, h.len, only_drewN h.only n, h.prev, h.cnt_le, h.cnt_pos⟩
theorem ScP.und {b a g : Nat} {s t : ByteArray} {base : Nat} {w W W2 : World} {k Z i d : Nat} {ws : List Int} {v : Value} {pr : Int} {cnt : Nat} (h : ScP b a g s t base w W k Z i d ws v pr cnt) (hk : k < t.size) (hk0 : 0 < k) (h95 : bt t k = 95) (ho : W.grownBy W2 (some g)) (hg : g < base) :
    ScP b a g s t base w W2 (k + 1) Z i d ws v 95 cnt :=
  ⟨hk, h.gp.und h95, Nt_only h.own ho hg, h.dg, h.val_, by have := h.len; omega, only_trans h.only ho, fun _ => ⟨fun _ => rfl, fun hn => absurd h95 hn⟩, by have := h.cnt_le; omega, fun _ => h.cnt_pos hk0⟩
theorem ScP.dig {b a g : Nat} {s t : ByteArray} {base : Nat} {w W W2 : World} {k Z i d : Nat} {ws : List Int} {v : Value} {pr : Int} {cnt : Nat} (h : ScP b a g s t base w W k Z i d ws v pr cnt) (hk : k < t.size) (x : Nat) (hx : (dv (bt t k)).toNat = x) (hxb : x < b) (h95 : bt t k ≠ 95) (ho : W.grownBy W2 (some g)) (hg : g < base) :
    ScP b a g s t base w W2 (k + 1) Z (i + 1) (d * b + x) ws v 48 (cnt + 1) :=
  ⟨hk, h.gp.fig x hx hxb h95, Nt_only h.own ho hg, h.dg, h.val_, by have := h.len; omega, only_trans h.only ho, fun _ => ⟨fun hn => absurd hn h95, fun _ => rfl⟩, by have := h.cnt_le; omega, fun _ => by omega⟩
theorem ScP.full {b a g : Nat} {s t : ByteArray} {base n : Nat} {w W W1 W2 : World} {k Z i d : Nat} {ws : List Int} {v v1 : Value} {pr : Int} {cnt : Nat} (h : ScP b a g s t base w W k Z i d ws v pr cnt) (hk : k < t.size) (x : Nat) (hx : (dv (bt t k)).toNat = x) (hxb : x < b) (h95 : bt t k ≠ 95) (hi : i + 1 = n) (hbn : b ^ n = 18446744073709551616)
    (Y : Int) (hY : Y = ((d * b + x : Nat) : Int)) (hv : Nt W1 base v1 (ws ++ [Y])) (hb1 : Below base W W1) (ho : W1.grownBy W2 (some g)) (hg : g < base) (hw : w.heap.size ≤ base) :
    ScP b a g s t base w W2 (k + 1) (Z * b ^ n + (d * b + x)) 0 0 (ws ++ [Y]) v1 48 (cnt + 1) := by
  have hgp := h.gp.fig x hx hxb h95
  rw [hi] at hgp
  have hlt := hgp.lt
  rw [hbn] at hlt
  refine ⟨hk, hgp.full, Nt_only hv ho hg, Dg_append.2 ⟨h.dg, fun z hz => by rw [List.mem_singleton] at hz; subst hz; omega⟩, ?_, by have := h.len; simp; omega, only_trans (only_base h.only hb1 hw) ho, fun _ => ⟨fun hn => absurd hn h95, fun _ => rfl⟩, by have := h.cnt_le; omega, fun _ => by omega⟩
  rw [val_rev_snoc, h.val_, hbn, hY]
  generalize d * b + x = m
  omega

/-- The end where no figure is left over. -/
theorem ScP.end0 {b a g : Nat} {s t : ByteArray} {base : Nat} {w W : World} {Z d : Nat} {ws : List Int} {v : Value} {pr : Int} {cnt : Nat} (h : ScP b a g s t base w W t.size Z 0 d ws v pr cnt) (hT : Tx b a s t) (hb : 2 ≤ b) :
    ws ≠ [] ∧ (val (18446744073709551616 : Nat) ws.reverse).toNat = pv b t t.size := by
  have h1 := h.gp.lt
  have h2 := h.gp.eq
  rw [Nat.pow_zero] at h1 h2
  have hp := hT.pv_pos hb t.size hT.pos
  have hv := h.val_
  refine ⟨fun h0 => ?_, by rw [hv]; omega⟩
  subst h0
  simp [val] at hv
  omega
theorem rev_Dg {B : Int} {ws : List Int} (h : Dg B ws) : Dg B ws.reverse := fun x hx => h x (List.mem_reverse.1 hx)
theorem rev_ne {ws : List Int} (h : ws ≠ []) : ws.reverse ≠ [] := by simpa using h

/-- The end where figures are left over: their word, filled up from behind. -/
theorem ScP.endj {b a g n : Nat} {s t : ByteArray} {base : Nat} {w W : World} {Z j d : Nat} {ws : List Int} {v : Value} {pr : Int} {cnt : Nat} (h : ScP b a g s t base w W t.size Z j d ws v pr cnt) (hb : 2 ≤ b) (hj : j < n) (hbn : b ^ n = 18446744073709551616) (Y : Int) (hY : Y = ((d * b ^ (n - j) : Nat) : Int)) :
    d * b ^ (n - j) < 18446744073709551616 ∧ Dg (18446744073709551616 : Nat) (ws ++ [Y]) ∧ (val (18446744073709551616 : Nat) (ws ++ [Y]).reverse).toNat = pv b t t.size * b ^ (n - j) := by
  have hlt := h.gp.lt
  have hpp : b ^ j * b ^ (n - j) = 18446744073709551616 := by rw [← Nat.pow_add, show j + (n - j) = n by omega, hbn]
  have h1 : d * b ^ (n - j) < 18446744073709551616 := by
    rw [← hpp]
    exact Nat.mul_lt_mul_of_pos_right hlt (Nat.pow_pos (by omega))
  refine ⟨h1, Dg_append.2 ⟨h.dg, fun z hz => by rw [List.mem_singleton] at hz; subst hz; omega⟩, ?_⟩
  rw [val_rev_snoc, h.val_, h.gp.eq, Nat.add_mul, Nat.mul_assoc, hpp, hY]
  omega

theorem pow2_16 {m : Nat} : 16 ^ m = 2 ^ (m * 4) := by rw [show (16 : Nat) = 2 ^ 4 from rfl, ← Nat.pow_mul, Nat.mul_comm]
theorem pv_len {b : Nat} {s t : ByteArray} (hT : Tx b 2 s t) (hb : 2 ≤ b) (hb2 : b ≤ 16) (m : Nat) (hm : b ^ m ≤ 18446744073709551616) : (figs 18446744073709551616 (pv b t t.size * b ^ m)).length ≤ 100000 := by
  have h1 := pv_lt hb (fun j hj => hT.fig' j hj) t.size (Nat.le_refl _)
  have h2 : (figs 18446744073709551616 (pv b t t.size * b ^ m)).length ≤ t.size + 1 := by
    refine figs_length_le (by decide) _ _ ?_
    rw [Nat.pow_succ]
    exact Nat.lt_of_lt_of_le (Nat.mul_lt_mul_of_pos_right h1 (Nat.pow_pos (by omega))) (Nat.mul_le_mul (Nat.pow_le_pow_left (by omega) _) hm)
  have := hT.len
  have := hT.size
  omega
theorem ScP.prod_pos {b a g : Nat} {s t : ByteArray} {base : Nat} {w W : World} {k Z i d : Nat} {ws : List Int} {v : Value} {pr : Int} {cnt : Nat} (h : ScP b a g s t base w W k Z i d ws v pr cnt) (hT : Tx b a s t) (m : Nat) (hb : 2 ≤ b := by decide) : 0 < pv b t t.size * b ^ m :=
  Nat.mul_pos (hT.pv_pos hb t.size hT.pos) (Nat.pow_pos (by omega))
theorem pow_le16 {m : Nat} (h : m ≤ 16) : 16 ^ m ≤ 18446744073709551616 := Nat.le_trans (Nat.pow_le_pow_right (by decide) h) (by decide : 16 ^ 16 ≤ 18446744073709551616)
theorem pow_le2 {m : Nat} (h : m ≤ 64) : 2 ^ m ≤ 18446744073709551616 := Nat.le_trans (Nat.pow_le_pow_right (by decide) h) (by decide : 2 ^ 64 ≤ 18446744073709551616)
theorem div_back16 {V m : Nat} : V * 16 ^ m / 2 ^ (m * 4) = V := by rw [pow2_16]; exact Nat.mul_div_cancel V (Nat.pow_pos (by decide))
theorem div_back2 {V m : Nat} : V * 2 ^ m / 2 ^ (m * 1) = V := by rw [Nat.mul_one]; exact Nat.mul_div_cancel V (Nat.pow_pos (by decide))
end Go.Proofs.YtgpoplfgngiilaaGreatDoor

namespace Go.Proofs.YtgpoplfgngiilaaGreatDoor
open Go.RowKit Go.Proofs.YtgpoplfgngiilaaGreatDoorW.PrintWords PAll Pl

/-- What scan answers whenever it is asked at this text: base b, value V. -/
def ScanAt (b V : Nat) (s : ByteArray) (pa : Addr) : Prop :=
  ∀ (g : Nat) (W : World), 1 < g → g < W.heap.size → RdAt W g s 0 (-1) → Eof W pa → Calls Tryz.prog 109 #[.slice none 0 0, .iface 133 (.pointer (some ⟨g, 0, none⟩)), .int .i64 0, .bool false] W (ScOk b V g s W)

/-- An Int that holds V, its words among the blocks from base on. -/
def Ib (w : World) (base g V : Nat) : Prop := ∃ v, w.heap[g]? = some (.cells #[.bool false, v] 116 (0, 0)) ∧ Nt w base v (figs 18446744073709551616 V)

theorem Nt_slice {w : World} {base : Nat} {v : Value} {xs : List Int} (h : Nt w base v xs) : ∃ A c, v = .slice A xs.length c := own_slice h
theorem Nt_far {w : World} {base : Nat} {v : Value} {xs : List Int} (h : Nt w base v xs) {p : Addr} (hp : p.block < base) (u : Value) : Nt (w.setCell p u) base v xs := by
  refine own_setCell h ?_ u
  intro e
  have := own_base h _ e.symm
  omega

/-- What Int.scan answers. -/
def IsOk (b V gi g : Nat) (s : ByteArray) (w : World) (e : Ending) (w' : World) : Prop :=
  e = .returned (.tuple #[.pointer (some ⟨gi, 0, none⟩), .int .i64 b, .nilIface]) ∧ Ib w' w.heap.size gi V ∧ RdAt w' g s s.size (-1) ∧ w.heap.size ≤ w'.heap.size ∧ (∀ k, k < w.heap.size → k ≠ g → k ≠ gi → w'.heap[k]? = w.heap[k]?) ∧ w'.os = w.os ∧ w'.tape = w.tape ∧ w'.output = w.output

set_option maxHeartbeats 2000000 in
set_option maxRecDepth 100000 in
theorem intScan (b V gi g : Nat) (s : ByteArray) (pa : Addr) (w : World) (hV : 0 < V) (hS : ScanAt b V s pa) (hs0 : 0 < s.size) (hs : s.size ≤ 100000) (h45 : bt s 0 ≠ 45) (h43 : bt s 0 ≠ 43) (hg : 1 < g) (hgi : 1 < gi) (hne : gi ≠ g) (hgw : g < w.heap.size)
    (hr : RdAt w g s 0 (-1)) (hz : w.heap[gi]? = some (.cells #[.bool false, .slice none 0 0] 116 (0, 0))) (hev : Eof w pa) :
    Calls Tryz.prog 103 #[.pointer (some ⟨gi, 0, none⟩), .iface 133 (.pointer (some ⟨g, 0, none⟩)), .int .i64 0] w (IsOk b V gi g s w) := by
  have hgiw := blk_lt hz
  have H := Aside0.mk (scanSign_none g s (-1) w hs0 hs h45 h43 hr)
  have HZ := Aside0.mk hz
  have HE := Aside0.mk hev
  have HS := Aside0.mk hS
  have HL : Aside0 (0 < (figs 18446744073709551616 V).length) := ⟨List.length_pos_iff.2 (figs_ne (by decide) hV)⟩
  clear hr hz hev hS h45 h43 hV
  go_enter Tryz.func103, Tryz.ntmps103
  go_wp2_with fail
  refine H.out.mono ?_
  rintro e w1 ⟨rfl, hr, ho⟩
  have hz1 := blk_grown HZ.out ho (by intro e; cases e; exact hne rfl)
  have c0 : w1.cell? ⟨gi, 0, none⟩ = some (.bool false) := blk_cell hz1 0
  have c1 : w1.cell? ⟨gi, 1, none⟩ = some (.slice none 0 0) := blk_cell hz1 1
  have HS1 := Aside0.mk (HS.out g w1 hg (Nat.lt_of_lt_of_le hgw ho.size) hr (HE.out.only ho hg))
  have HO := Aside0.mk ho
  have HZ1 := Aside0.mk hz1
  clear hr ho hz1
  go_wp2_with fail
  refine HS1.out.mono ?_
  rintro e w2 ⟨v, c, rfl, hv, hr, ho⟩
  have hz2 := blk_grown HZ1.out ho (by intro e; cases e; exact hne rfl)
  obtain ⟨A, cp, rfl⟩ := Nt_slice hv
  obtain ⟨n, hn⟩ : ∃ n, n = (figs 18446744073709551616 V).length := ⟨_, rfl⟩
  have hn1 : 0 < n := by rw [hn]; exact HL.out
  have HN := Aside0.mk hn
  rw [← hn] at hv ⊢
  have d0 : w2.cell? ⟨gi, 0, none⟩ = some (.bool false) := blk_cell hz2 0
  have d1 : w2.cell? ⟨gi, 1, none⟩ = some (.slice none 0 0) := blk_cell hz2 1
  have f0 : w2.frozen? ⟨gi, 0, none⟩ = false := blk_frozen hz2 0
  have f1 : w2.frozen? ⟨gi, 1, none⟩ = false := blk_frozen hz2 1
  have HV := Aside0.mk hv
  have HR := Aside0.mk hr
  have HO2 := Aside0.mk (only_trans HO.out ho)
  have HZ2 := Aside0.mk hz2
  have HW1 := Aside0.mk HO.out.size
  clear hn hv hr ho hz2
  go_wp2_with fail
  refine bodyPost_ret (results_tmp3 rfl _ _ _) rfl ?_
  refine ⟨rfl, ⟨_, blk_put (blk_put HZ2.out 1 (.slice A n cp) rfl) 0 (.bool false) rfl, ?_⟩, ?_, ?_, ?_, HO2.out.os, HO2.out.tape, HO2.out.output⟩
  · have h1 := HV.out
    have h2 : Nt w2 w1.heap.size (.slice A n cp) (figs 18446744073709551616 V) := h1
    have h3 : Nt w2 w.heap.size (.slice A n cp) (figs 18446744073709551616 V) := by
      refine ⟨h2.1, ?_⟩
      rcases h2.2 with h | ⟨g', cap, cur, e1, e2, rest⟩
      · exact .inl h
      · exact .inr ⟨g', cap, cur, e1, Nat.le_trans HW1.out e2, rest⟩
    exact Nt_far (Nt_far h3 (by simpa using hgiw) _) (by simpa using hgiw) _
  · exact blk_far (blk_far HR.out (by simpa using Ne.symm hne) _) (by simpa using Ne.symm hne) _
  · simpa [World.setCell] using HO2.out.size
  · intro k hk h1 h2
    rw [Below.heap_setCell _ _ _ _ (by simpa using h2), Below.heap_setCell _ _ _ _ (by simpa using h2)]
    exact HO2.out.block k hk (by intro e; cases e; exact h1 rfl)

/-- What setFromScanner and SetString answer. -/
def IfOk (V gi g : Nat) (w : World) (e : Ending) (w' : World) : Prop :=
  e = .returned (.tuple #[.pointer (some ⟨gi, 0, none⟩), .bool true]) ∧ Ib w' w.heap.size gi V ∧ w.heap.size ≤ w'.heap.size ∧ (∀ k, k < w.heap.size → k ≠ g → k ≠ gi → w'.heap[k]? = w.heap[k]?) ∧ w'.os = w.os ∧ w'.tape = w.tape ∧ w'.output = w.output

theorem Ib_only {w w1 : World} {base gi g V : Nat} (h : Ib w base gi V) (ho : w.grownBy w1 (some g)) (hg : g < base) (hne : gi ≠ g) : Ib w1 base gi V := by
  obtain ⟨v, h1, h2⟩ := h
  exact ⟨v, blk_grown h1 ho (by intro e; cases e; exact hne rfl), Nt_only h2 ho hg⟩

set_option maxHeartbeats 2000000 in
set_option maxRecDepth 100000 in
theorem setFrom (b V gi g : Nat) (s : ByteArray) (pa : Addr) (w : World) (hV : 0 < V) (hS : ScanAt b V s pa) (hs0 : 0 < s.size) (hs : s.size ≤ 100000) (h45 : bt s 0 ≠ 45) (h43 : bt s 0 ≠ 43) (hg : 1 < g) (hgi : 1 < gi) (hne : gi ≠ g) (hgw : g < w.heap.size)
    (hr : RdAt w g s 0 (-1)) (hz : w.heap[gi]? = some (.cells #[.bool false, .slice none 0 0] 116 (0, 0))) (hev : Eof w pa) :
    Calls Tryz.prog 66 #[.pointer (some ⟨gi, 0, none⟩), .iface 133 (.pointer (some ⟨g, 0, none⟩)), .int .i64 0] w (IfOk V gi g w) := by
  have H := Aside0.mk (intScan b V gi g s pa w hV hS hs0 hs h45 h43 hg hgi hne hgw hr hz hev)
  have hl1 := World.block_lt_of_cell? _ _ hev
  have HE := Aside0.mk hev
  have HL1 := Aside0.mk hl1
  clear hr hz hev hS h45 h43 hV hl1
  go_enter Tryz.func66, Tryz.ntmps66
  go_wp2_with fail
  refine H.out.mono ?_
  rintro e w1 ⟨rfl, hI, hr, hsz, hbl, ho1, ho2, ho3⟩
  have he1 : Eof w1 pa := (World.cell?_of_block (hbl 1 HL1.out (by omega) (by omega))).trans HE.out
  have HE1 := Aside0.mk he1
  have HR1 := Aside0.mk (read_end g s s.size (-1) _ w1 hs (Nat.le_refl _) hs hr hg he1)
  have HI := Aside0.mk hI
  have HB := Lib.hid hbl
  have HSZ := Aside0.mk hsz
  have HW := Aside0.mk (And.intro ho1 (And.intro ho2 ho3))
  clear hI hr hsz hbl ho1 ho2 ho3 he1
  go_wp2_with fail
  refine HR1.out.mono ?_
  rintro e w2 ⟨rfl, hr, ho⟩
  have heq := fun W => eof_neq pa W
  have he2 : w2.cell? ⟨1, 0, none⟩ = some (.iface 279 (.pointer (some pa))) := HE1.out.only ho hg
  have HO := Aside0.mk ho
  clear hr ho
  go_wp2_with fail
  refine bodyPost_ret (results_tmp2 rfl _ _ _) rfl ?_
  have ho := HO.out
  refine ⟨rfl, Ib_only HI.out ho (by omega) hne, Nat.le_trans HSZ.out ho.size, fun k hk h1 h2 => ?_, ho.os.trans HW.out.1, ho.tape.trans HW.out.2.1, ho.output.trans HW.out.2.2⟩
  rw [ho.block k (Nat.lt_of_lt_of_le hk HSZ.out) (by intro e; cases e; exact h1 rfl)]
  exact HB.out k hk h1 h2

theorem newInt_any (w : World) : Calls Tryz.prog 44 #[] w fun e w' => e = .returned (.pointer (some ⟨w.heap.size, 0, none⟩)) ∧ w.alloc (.cells #[.bool false, .slice none 0 0] 116) = w' := by
  go_enter Tryz.func44, Tryz.ntmps44
  go_wp2
  go_ret
  exact ⟨rfl, rfl⟩
theorem newReader_any (s : ByteArray) (w : World) : Calls Tryz.prog 67 #[.string s] w fun e w' => e = .returned (.pointer (some ⟨w.heap.size, 0, none⟩)) ∧ w.alloc (.cells #[.string s, .int .i64 0, .int .i64 (-1)] 189) = w' := by
  go_enter Tryz.func67, Tryz.ntmps67
  go_wp2
  go_ret
  exact ⟨rfl, rfl⟩

/-- What SetString answers. -/
def IgOk (V gi : Nat) (w : World) (e : Ending) (w' : World) : Prop :=
  e = .returned (.tuple #[.pointer (some ⟨gi, 0, none⟩), .bool true]) ∧ Ib w' w.heap.size gi V ∧ w.grownBy w' (some gi)

set_option maxHeartbeats 2000000 in
set_option maxRecDepth 100000 in
theorem setString (b V gi : Nat) (s : ByteArray) (pa : Addr) (w : World) (hV : 0 < V) (hS : ScanAt b V s pa) (hs0 : 0 < s.size) (hs : s.size ≤ 100000) (h45 : bt s 0 ≠ 45) (h43 : bt s 0 ≠ 43) (hgi : 1 < gi)
    (hz : w.heap[gi]? = some (.cells #[.bool false, .slice none 0 0] 116 (0, 0))) (hev : Eof w pa) :
    Calls Tryz.prog 45 #[.pointer (some ⟨gi, 0, none⟩), .string s, .int .i64 0] w (IgOk V gi w) := by
  have hlt := blk_lt hz
  have hb := below_alloc (Below.refl w.heap.size w) (.cells #[.string s, .int .i64 0, .int .i64 (-1)] 189)
  have H := Aside0.mk (setFrom b V gi w.heap.size s pa (w.alloc (.cells #[.string s, .int .i64 0, .int .i64 (-1)] 189)) hV hS hs0 hs h45 h43 (by omega) hgi (by omega) (by simp) (heap_alloc_new w _) (blk_below hz hb) (Eof.below hev hb (World.block_lt_of_cell? _ _ hev)))
  obtain ⟨W0, hW0⟩ : ∃ W0, W0 = w.alloc (.cells #[.string s, .int .i64 0, .int .i64 (-1)] 189) := ⟨_, rfl⟩
  obtain ⟨g, hg⟩ : ∃ g, g = w.heap.size := ⟨_, rfl⟩
  have hN := newReader_any s w
  rw [← hW0] at H hb hN
  rw [← hg] at H hN
  have HN := Aside0.mk hN
  have HB := Aside0.mk hb
  have HG := Aside0.mk hg
  clear hz hev hS h45 h43 hV hW0 hN hb hg
  go_enter Tryz.func45, Tryz.ntmps45
  go_wp2_with fail
  refine HN.out.mono ?_
  rintro e w' ⟨rfl, rfl⟩
  go_wp2_with fail
  refine H.out.mono ?_
  rintro e w1 ⟨rfl, hI, hsz, hbl, ho1, ho2, ho3⟩
  have HI := Aside0.mk hI
  have HBL := Lib.hid hbl
  have HSZ := Aside0.mk hsz
  have HW := Aside0.mk (And.intro ho1 (And.intro ho2 ho3))
  clear hI hsz hbl ho1 ho2 ho3
  go_wp2_with fail
  refine bodyPost_ret (results_tmp2 rfl _ _ _) rfl ?_
  obtain ⟨v, h1, h2⟩ := HI.out
  have hB := HB.out
  have hG := HG.out
  refine ⟨rfl, ⟨v, h1, ?_⟩, HW.out.1.trans hB.os, HW.out.2.1.trans hB.tape, HW.out.2.2.trans hB.output, Nat.le_trans hB.size HSZ.out, fun k hk hne => ?_⟩
  · refine ⟨h2.1, ?_⟩
    rcases h2.2 with h | ⟨g', cap, cur, e1, e2, rest⟩
    · exact .inl h
    · exact .inr ⟨g', cap, cur, e1, Nat.le_trans hB.size e2, rest⟩
  · rw [HBL.out k (Nat.lt_of_lt_of_le hk hB.size) (by omega) (by intro e; subst e; exact hne rfl)]
    exact hB.block k hk
end Go.Proofs.YtgpoplfgngiilaaGreatDoor
