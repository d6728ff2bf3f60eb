/- Small lemmas for the walks: functions with four and five results; what a call leaves. -/
import Derived.Test.YtgpoplfgngiilaaGreatDoorS0
import Derived.WalkSpells
import Derived.WalkLawsBesides
import Derived.Handy
import Derived.Lib.Hide
set_option linter.unusedVariables false
set_option linter.unusedSimpArgs false
namespace Go.Proofs.YtgpoplfgngiilaaGreatDoor
open Go.RowKit Go.Proofs.YtgpoplfgngiilaaGreatDoorW.PrintWords

theorem results_tmp4 {fn : Func} {t u v x : Tmp} (h : fn.results = #[.tmp t, .tmp u, .tmp v, .tmp x]) (tmps : Array Value) (P : Program) (w : World) :
    (results fn tmps).run P w = .ok (.tuple #[tmps.getD t undef, tmps.getD u undef, tmps.getD v undef, tmps.getD x undef]) w := by simp [results, h]
theorem results_tmp5 {fn : Func} {t u v x y : Tmp} (h : fn.results = #[.tmp t, .tmp u, .tmp v, .tmp x, .tmp y]) (tmps : Array Value) (P : Program) (w : World) :
    (results fn tmps).run P w = .ok (.tuple #[tmps.getD t undef, tmps.getD u undef, tmps.getD v undef, tmps.getD x undef, tmps.getD y undef]) w := by simp [results, h]

theorem C_at {w : World} {kd : IntKind} {A : Option Addr} {n : Nat} {xs : List Int} (h : Kd.C (Kd.int kd) w A n xs) (i : Nat) (hi : i < n) : ∃ ad, A = some ad ∧ w.cell? (ad.add i) = some (.int kd (xs.getD i 0)) := by
  obtain ⟨ad, c1, hA, _, hK, hcell⟩ := h.get_ (d := 0) (i : Int) (by omega) (by omega)
  have hc1 : c1 = [.int kd (xs.getD i 0)] := hK
  subst hc1
  have h0 := hcell 0 _ rfl
  refine ⟨ad, hA, ?_⟩
  have e : (i : Int).toNat * (Kd.int kd).sz + 0 = i := by show (i : Int).toNat * 1 + 0 = i; omega
  rw [e] at h0
  exact h0
theorem C_len {w : World} {kd : IntKind} {A : Option Addr} {n : Nat} {xs : List Int} (h : Kd.C (Kd.int kd) w A n xs) : xs.length = n := h.1
theorem take_snoc (xs : List Int) (k : Nat) (h : k < xs.length) : xs.take (k + 1) = xs.take k ++ [xs.getD k 0] := by
  rw [List.take_add_one, List.getElem?_eq_getElem h]
  simp [List.getD_eq_getElem?_getD, List.getElem?_eq_getElem h]

/-- A slice value that reads as these words; its array, if it has one, is a block of S. -/
def Wd (S : Nat → Prop) (w : World) (v : Value) (xs : List Int) : Prop := ∃ A c, v = .slice A xs.length c ∧ xs.length ≤ c ∧ Kd.C (Kd.int .u64) w A xs.length xs ∧ ∀ ad, A = some ad → S ad.block
theorem C_nil (w : World) (kd : IntKind) (A : Option Addr) : Kd.C (Kd.int kd) w A 0 [] := ⟨rfl, by omega, fun h => absurd h (by omega)⟩
theorem C_mk {w : World} {kd : IntKind} {ad : Addr} {xs : List Int} (hl : xs.length ≤ 9223372036854775807) (h : ∀ i, i < xs.length → w.cell? (ad.add i) = some (.int kd (xs.getD i 0))) : Kd.C (Kd.int kd) w (some ad) xs.length xs := by
  refine ⟨rfl, hl, fun _ => ⟨ad, rfl, fun j p hj => ⟨[.int kd p], rfl, rfl, fun i u hu => ?_⟩⟩⟩
  have hj' := (List.getElem?_eq_some_iff.1 hj)
  obtain ⟨hlt, hp⟩ := hj'
  match i, hu with
  | 0, hu =>
    have hu' : u = .int kd p := by simpa using hu.symm
    subst hu'
    have e : j * (Kd.int kd).sz + 0 = j := by show j * 1 + 0 = j; omega
    rw [e, h j hlt]
    simp [List.getD_eq_getElem?_getD, hj]
  | i + 1, hu => simp at hu
theorem C_one {w : World} {kd : IntKind} {b : Nat} {x : Int} (h : w.cell? ⟨b, 0, none⟩ = some (.int kd x)) : Kd.C (Kd.int kd) w (some ⟨b, 0, none⟩) 1 [x] :=
  C_mk (xs := [x]) (by simp) (fun i hi => by
    have : i = 0 := by simpa using hi
    subst this
    simpa [Addr.add] using h)
theorem C_move {w w1 : World} {kd : IntKind} {A : Option Addr} {n : Nat} {xs : List Int} (h : Kd.C (Kd.int kd) w A n xs) (hm : ∀ ad : Addr, A = some ad → ∀ k, w1.cell? (ad.add k) = w.cell? (ad.add k)) : Kd.C (Kd.int kd) w1 A n xs := by
  refine ⟨h.1, h.2.1, fun hn => ?_⟩
  obtain ⟨ad, hA, hc⟩ := h.2.2 hn
  refine ⟨ad, hA, fun j p hj => ?_⟩
  obtain ⟨c, hl, hk, hcell⟩ := hc j p hj
  exact ⟨c, hl, hk, fun i u hu => (hm ad hA _).trans (hcell i u hu)⟩
theorem block_add (a : Addr) (n : Nat) : (a.add n).block = a.block := by unfold Addr.add; split <;> rfl
theorem C_far {w : World} {kd : IntKind} {A : Option Addr} {n : Nat} {xs : List Int} (h : Kd.C (Kd.int kd) w A n xs) {p : Addr} (hne : ∀ ad : Addr, A = some ad → ad.block ≠ p.block) (u : Value) : Kd.C (Kd.int kd) (w.setCell p u) A n xs :=
  C_move h fun ad hA k => World.cell?_of_block (Below.heap_setCell w p u _ (by rw [block_add]; exact hne ad hA))
theorem C_keep {w w1 : World} {kd : IntKind} {A : Option Addr} {n : Nat} {xs : List Int} (h : Kd.C (Kd.int kd) w A n xs) (hm : ∀ ad : Addr, A = some ad → w1.heap[ad.block]? = w.heap[ad.block]?) : Kd.C (Kd.int kd) w1 A n xs :=
  C_move h fun ad hA k => World.cell?_of_block (by rw [block_add]; exact hm ad hA)
theorem Wd_nil (S : Nat → Prop) (w : World) : Wd S w (.slice none 0 0) [] := ⟨none, 0, rfl, Nat.le_refl _, C_nil _ _ _, fun _ h => by cases h⟩
theorem Wd_below {S : Nat → Prop} {w w1 : World} {v : Value} {xs : List Int} (h : Wd S w v xs) (hb : Below w.heap.size w w1) : Wd S w1 v xs := by
  obtain ⟨A, c, hv, hl, hc, hs⟩ := h
  exact ⟨A, c, hv, hl, Kd.C_below hc hb, hs⟩
theorem Wd_mono {S T : Nat → Prop} {w : World} {v : Value} {xs : List Int} (h : Wd S w v xs) (hst : ∀ k, S k → T k) : Wd T w v xs := by
  obtain ⟨A, c, hv, hl, hc, hs⟩ := h
  exact ⟨A, c, hv, hl, hc, fun ad ha => hst _ (hs ad ha)⟩
theorem Wd_far {S : Nat → Prop} {w : World} {v : Value} {xs : List Int} (h : Wd S w v xs) {p : Addr} (hp : ¬ S p.block) (u : Value) : Wd S (w.setCell p u) v xs := by
  obtain ⟨A, c, hv, hl, hc, hs⟩ := h
  exact ⟨A, c, hv, hl, C_far hc (fun ad ha e => hp (e ▸ hs ad ha)) u, hs⟩
theorem Wd_keep {S : Nat → Prop} {w w1 : World} {v : Value} {xs : List Int} (h : Wd S w v xs) (hm : ∀ k, S k → w1.heap[k]? = w.heap[k]?) : Wd S w1 v xs := by
  obtain ⟨A, c, hv, hl, hc, hs⟩ := h
  exact ⟨A, c, hv, hl, C_keep hc (fun ad ha => hm _ (hs ad ha)), hs⟩
theorem Wd_R {w : World} {e base : Nat} {ok : Nat → Prop} {v : Value} {xs : List Int} (h : Kd.R (Kd.int .u64) e w base ok v xs) : Wd (fun k => base ≤ k) w v xs := by
  obtain ⟨A, c, hv, hl, hc⟩ := Kd.R_reads h
  refine ⟨A, c, hv, hl, hc, fun ad ha => ?_⟩
  obtain ⟨inner, ho⟩ := Kd.R_own h
  exact own_base ho _ (by rw [hv, ha]; rfl)
theorem Wd_at {S : Nat → Prop} {w : World} {v : Value} {xs : List Int} (h : Wd S w v xs) : ∃ A c, v = .slice A xs.length c ∧ xs.length ≤ c ∧ Kd.C (Kd.int .u64) w A xs.length xs := by
  obtain ⟨A, c, hv, hl, hc, hs⟩ := h
  exact ⟨A, c, hv, hl, hc⟩
theorem only_drewN {a w : World} {row : Option Nat} (h : a.grownBy w row) (n : Nat) : a.grownBy (w.drewN n) row := ⟨h.os, h.tape, h.output, h.size, h.block⟩
theorem only_alloc {a w : World} {row : Option Nat} (h : a.grownBy w row) (o : Obj) : a.grownBy (w.alloc o) row :=
  ⟨h.os, h.tape, h.output, Nat.le_trans h.size (by simp), fun i hi hne => (Below.heap_alloc w o i (Nat.lt_of_lt_of_le hi h.size)).trans (h.block i hi hne)⟩
theorem only_setCell {a w : World} {g : Nat} (h : a.grownBy w (some g)) {p : Addr} (hp : p.block = g ∨ a.heap.size ≤ p.block) (u : Value) : a.grownBy (w.setCell p u) (some g) :=
  ⟨h.os, h.tape, h.output, by simpa [World.setCell] using h.size, fun i hi hne => (Below.heap_setCell w p u i (by
    rintro rfl
    rcases hp with hp | hp
    · exact hne (by rw [hp])
    · omega)).trans (h.block i hi hne)⟩
theorem only_refl (w : World) (row : Option Nat) : w.grownBy w row := ⟨rfl, rfl, rfl, Nat.le_refl _, fun _ _ _ => rfl⟩
theorem only_below {a w w1 : World} {row : Option Nat} (h : a.grownBy w row) (hb : Below w.heap.size w w1) : a.grownBy w1 row :=
  ⟨hb.os.trans h.os, hb.tape.trans h.tape, hb.output.trans h.output, Nat.le_trans h.size hb.size, fun i hi hne => (hb.block i (Nat.lt_of_lt_of_le hi h.size)).trans (h.block i hi hne)⟩
theorem only_trans {a w w1 : World} {row : Option Nat} (h : a.grownBy w row) (k : w.grownBy w1 row) : a.grownBy w1 row :=
  ⟨k.os.trans h.os, k.tape.trans h.tape, k.output.trans h.output, Nat.le_trans h.size k.size, fun i hi hne => (k.block i (Nat.lt_of_lt_of_le hi h.size) hne).trans (h.block i hi hne)⟩
theorem V_C {kd : IntKind} {w : World} {e base : Nat} {ok : Nat → Prop} {v : Value} {xs : List Int} (h : Kd.V (Kd.int kd) e w base ok v xs) : ∃ A c, v = .slice A xs.length c ∧ xs.length ≤ c ∧ Kd.C (Kd.int kd) w A xs.length xs := by
  obtain ⟨A, c, rfl⟩ := Kd.V_slice h
  exact ⟨A, c, rfl, (Kd.V_reads' h).2.1, (Kd.V_reads' h).2.2⟩
end Go.Proofs.YtgpoplfgngiilaaGreatDoor
