/- The small functions of a Float: newFloat, IsInf, MantExp, smallFloat, Sign, round; newRat. One word shifted to the left: lshVU, fnorm; nat's lsh of one word. nat.scan at a hexadecimal text with a point: what the text is, and what holds while it runs. (wip/gen/sp.py wrote it.) -/
import Derived.Test.YtgpoplfgngiilaaGreatDoorZ09
import Derived.Lib.SliceRun
import Derived.Lib.LazyBuf
import Derived.Deep.Cut
import Derived.Deep.CutRange
import Derived.Deep.DeepCutAuto
set_option linter.unusedVariables false
set_option linter.unusedSimpArgs false
namespace Go.Proofs.YtgpoplfgngiilaaGreatDoor
open Go.RowKit Go.Proofs.YtgpoplfgngiilaaGreatDoorW.PrintWords PAll Pl Dv

/-- A Float's cells. -/
def flt (p a f : Int) (n : Bool) (m : Value) (e : Int) : Array Value := #[.int .u32 p, .int .u8 0, .int .i8 a, .int .u8 f, .bool n, m, .int .i32 e]
def Fk (w : World) (g : Nat) (p a f : Int) (n : Bool) (m : Value) (e : Int) : Prop := w.heap[g]? = some (.cells (flt p a f n m e) 171 (0, 0))

theorem setPrec512 (g : Nat) (w : World) (h : Fk w g 0 0 0 false (.slice none 0 0) 0) : Calls Tryz.prog 104 #[.pointer (some ⟨g, 0, none⟩), .int .u64 512] w fun e w' => e = .returned (.pointer (some ⟨g, 0, none⟩)) ∧ Fk w' g 512 0 0 false (.slice none 0 0) 0 ∧ Below g w w' := by
  have h1 : Fk (w.setCell ⟨g, 2, none⟩ (.int .i8 0)) g 0 0 0 false (.slice none 0 0) 0 := blk_put h 2 (.int .i8 0) rfl
  have h2 : Fk ((w.setCell ⟨g, 2, none⟩ (.int .i8 0)).setCell ⟨g, 0, none⟩ (.int .u32 512)) g 512 0 0 false (.slice none 0 0) 0 := blk_put h1 0 (.int .u32 512) rfl
  have c2 : w.cell? ⟨g, 2, none⟩ = some (.int .i8 0) := blk_cell h 2
  have f2 : w.frozen? ⟨g, 2, none⟩ = false := blk_frozen h _
  have c0 : (w.setCell ⟨g, 2, none⟩ (.int .i8 0)).cell? ⟨g, 0, none⟩ = some (.int .u32 0) := blk_cell h1 0
  have f0 : (w.setCell ⟨g, 2, none⟩ (.int .i8 0)).frozen? ⟨g, 0, none⟩ = false := blk_frozen h1 _
  have d0 : ((w.setCell ⟨g, 2, none⟩ (.int .i8 0)).setCell ⟨g, 0, none⟩ (.int .u32 512)).cell? ⟨g, 0, none⟩ = some (.int .u32 512) := blk_cell h2 0
  have H2 := Aside0.mk h2
  clear h h1 h2
  go_enter Tryz.func104, Tryz.ntmps104
  go_wp2_with fail
  go_ret
  exact ⟨rfl, H2.out, ((Below.refl g w).setCell (p := ⟨g, 2, none⟩) (Nat.le_refl _) _).setCell (p := ⟨g, 0, none⟩) (Nat.le_refl _) _⟩

theorem newFloat_any (w : World) : Calls Tryz.prog 68 #[] w fun e w' => e = .returned (.pointer (some ⟨w.heap.size, 0, none⟩)) ∧ Fk w' w.heap.size 512 0 0 false (.slice none 0 0) 0 ∧ Below w.heap.size w w' := by
  have HS := Aside0.mk (setPrec512 w.heap.size (w.alloc (.cells (flt 0 0 0 false (.slice none 0 0) 0) 171)) (heap_alloc_new w _))
  go_enter Tryz.func68, Tryz.ntmps68
  go_wp2_with fail
  refine HS.out.mono ?_
  rintro e w' ⟨rfl, h1, h2⟩
  have H1 := Aside0.mk (And.intro h1 h2)
  clear h1 h2
  go_wp2_with fail
  go_ret
  exact ⟨rfl, H1.out.1, (below_alloc (Below.refl _ _) _).trans H1.out.2⟩

theorem newRat_any (w : World) : Calls Tryz.prog 72 #[] w fun e w' => e = .returned (.pointer (some ⟨w.heap.size, 0, none⟩)) ∧ w.alloc (.cells #[.bool false, .slice none 0 0, .bool false, .slice none 0 0] 165) = w' := by
  go_enter Tryz.func72, Tryz.ntmps72
  go_wp2_with fail
  go_ret
  exact ⟨rfl, rfl⟩

theorem isInf_any (g : Nat) (p a f : Int) (n : Bool) (m : Value) (x : Int) (w : World) (h : Fk w g p a f n m x) (hf : f = 0 ∨ f = 1) : Calls Tryz.prog 106 #[.pointer (some ⟨g, 0, none⟩)] w fun e w' => e = .returned (.bool false) ∧ w = w' := by
  have c3 : w.cell? ⟨g, 3, none⟩ = some (.int .u8 f) := blk_cell h 3
  clear h
  rcases hf with rfl | rfl
  all_goals
    go_enter Tryz.func106, Tryz.ntmps106
    go_wp2_with fail
    go_ret
    exact ⟨rfl, rfl⟩

theorem mantExp_one (g : Nat) (p a : Int) (n : Bool) (m : Value) (x : Int) (w : World) (h : Fk w g p a 1 n m x) (hx : -2147483648 ≤ x ∧ x ≤ 2147483647) : Calls Tryz.prog 107 #[.pointer (some ⟨g, 0, none⟩), .pointer none] w fun e w' => e = .returned (.int .i64 x) ∧ w = w' := by
  have c3 : w.cell? ⟨g, 3, none⟩ = some (.int .u8 1) := blk_cell h 3
  have c6 : w.cell? ⟨g, 6, none⟩ = some (.int .i32 x) := blk_cell h 6
  obtain ⟨hx1, hx2⟩ := hx
  clear h
  go_enter Tryz.func107, Tryz.ntmps107
  go_wp2_with fail
  go_ret
  exact ⟨by go_num, rfl⟩

theorem mantExp_zero (g : Nat) (p a : Int) (n : Bool) (m : Value) (x : Int) (w : World) (h : Fk w g p a 0 n m x) : Calls Tryz.prog 107 #[.pointer (some ⟨g, 0, none⟩), .pointer none] w fun e w' => e = .returned (.int .i64 0) ∧ w = w' := by
  have c3 : w.cell? ⟨g, 3, none⟩ = some (.int .u8 0) := blk_cell h 3
  clear h
  go_enter Tryz.func107, Tryz.ntmps107
  go_wp2_with fail
  go_ret
  exact ⟨rfl, rfl⟩

theorem smallFloat_one (g : Nat) (p a : Int) (n : Bool) (m : Value) (x : Int) (w : World) (h : Fk w g p a 1 n m x) (hx : -4096 < x ∧ x < 4096) : Calls Tryz.prog 70 #[.pointer (some ⟨g, 0, none⟩)] w fun e w' => e = .returned (.bool true) ∧ w = w' := by
  have HI := Aside0.mk (isInf_any g p a 1 n m x w h (.inr rfl))
  have HM := Aside0.mk (mantExp_one g p a n m x w h (by omega))
  obtain ⟨hx1, hx2⟩ := hx
  clear h
  go_enter Tryz.func70, Tryz.ntmps70
  go_wp2_with fail
  refine HI.out.mono ?_
  rintro e w' ⟨rfl, rfl⟩
  go_wp2_with fail
  refine HM.out.mono ?_
  rintro e w' ⟨rfl, rfl⟩
  go_wp2_with fail
  go_ret
  exact ⟨rfl, rfl⟩

theorem smallFloat_zero (g : Nat) (p a : Int) (n : Bool) (m : Value) (x : Int) (w : World) (h : Fk w g p a 0 n m x) : Calls Tryz.prog 70 #[.pointer (some ⟨g, 0, none⟩)] w fun e w' => e = .returned (.bool true) ∧ w = w' := by
  have HI := Aside0.mk (isInf_any g p a 0 n m x w h (.inl rfl))
  have HM := Aside0.mk (mantExp_zero g p a n m x w h)
  clear h
  go_enter Tryz.func70, Tryz.ntmps70
  go_wp2_with fail
  refine HI.out.mono ?_
  rintro e w' ⟨rfl, rfl⟩
  go_wp2_with fail
  refine HM.out.mono ?_
  rintro e w' ⟨rfl, rfl⟩
  go_wp2_with fail
  go_ret
  exact ⟨rfl, rfl⟩

theorem sign_zero (g : Nat) (p a : Int) (n : Bool) (m : Value) (x : Int) (w : World) (h : Fk w g p a 0 n m x) : Calls Tryz.prog 71 #[.pointer (some ⟨g, 0, none⟩)] w fun e w' => e = .returned (.int .i64 0) ∧ w = w' := by
  have c3 : w.cell? ⟨g, 3, none⟩ = some (.int .u8 0) := blk_cell h 3
  clear h
  go_enter Tryz.func71, Tryz.ntmps71
  go_wp2_with fail
  go_ret
  exact ⟨rfl, rfl⟩

theorem sign_one (g : Nat) (p a : Int) (m : Value) (x : Int) (w : World) (h : Fk w g p a 1 false m x) : Calls Tryz.prog 71 #[.pointer (some ⟨g, 0, none⟩)] w fun e w' => e = .returned (.int .i64 1) ∧ w = w' := by
  have c3 : w.cell? ⟨g, 3, none⟩ = some (.int .u8 1) := blk_cell h 3
  have c4 : w.cell? ⟨g, 4, none⟩ = some (.bool false) := blk_cell h 4
  clear h
  go_enter Tryz.func71, Tryz.ntmps71
  go_wp2_with fail
  go_ret
  exact ⟨rfl, rfl⟩

set_option maxRecDepth 100000 in
/-- round where the mantissa fits. -/
theorem round_fits (g c : Nat) (A : Option Addr) (x : Int) (a : Int) (n : Bool) (w : World) (h : Fk w g 512 a 1 n (.slice A 1 c) x) :
    Calls Tryz.prog 145 #[.pointer (some ⟨g, 0, none⟩), .int .u64 0] w fun e w' => e = .returned (.tuple #[]) ∧ w' = w.setCell ⟨g, 2, none⟩ (.int .i8 0) := by
  have h1 : Fk (w.setCell ⟨g, 2, none⟩ (.int .i8 0)) g 512 0 1 n (.slice A 1 c) x := blk_put h 2 (.int .i8 0) rfl
  have c2 : w.cell? ⟨g, 2, none⟩ = some (.int .i8 a) := blk_cell h 2
  have f2 : w.frozen? ⟨g, 2, none⟩ = false := blk_frozen h _
  have c3 : (w.setCell ⟨g, 2, none⟩ (.int .i8 0)).cell? ⟨g, 3, none⟩ = some (.int .u8 1) := blk_cell h1 3
  have c5 : (w.setCell ⟨g, 2, none⟩ (.int .i8 0)).cell? ⟨g, 5, none⟩ = some (.slice A 1 c) := blk_cell h1 5
  have c0 : (w.setCell ⟨g, 2, none⟩ (.int .i8 0)).cell? ⟨g, 0, none⟩ = some (.int .u32 512) := blk_cell h1 0
  clear h h1
  go_enter Tryz.func145, Tryz.ntmps145
  go_wp2_with fail
  first
    | go_end0
    | refine bodyPost_ret (results_none rfl _ _ _) rfl ?_
  exact ⟨rfl, rfl⟩
end Go.Proofs.YtgpoplfgngiilaaGreatDoor

namespace Go.Proofs.YtgpoplfgngiilaaGreatDoor
open Go.RowKit Go.Proofs.YtgpoplfgngiilaaGreatDoorW.PrintWords PAll Pl Dv

theorem wrap_shl (X s : Nat) : IntKind.u64.wrap ((X : Int) * 2 ^ s) = ((X * 2 ^ s % 18446744073709551616 : Nat) : Int) := by
  have h : ((X * 2 ^ s : Nat) : Int) = (X : Int) * 2 ^ s := by push_cast; rfl
  rw [← h]
  generalize X * 2 ^ s = M
  simp [IntKind.wrap, IntKind.bits, IntKind.signed]

theorem shr_cast (X s : Nat) : (X : Int) / 2 ^ s = ((X / 2 ^ s : Nat) : Int) := by push_cast; rfl

/-- What a word's shift to the left leaves. -/
def LvOk (X s h k : Nat) (w : World) (e : Ending) (w' : World) : Prop :=
  e = .returned (.int .u64 ((X / 2 ^ (64 - s) : Nat) : Int)) ∧ w' = w.setCell ⟨h, k, none⟩ (.int .u64 ((X * 2 ^ s % 18446744073709551616 : Nat) : Int))

set_option maxHeartbeats 1000000 in
theorem lshVU_g1 (X s h k cz g cx : Nat) (cur : Array Value) (w : World) (hs0 : 0 < s) (hs : s < 64) (hx : w.cell? ⟨g, 0, none⟩ = some (.int .u64 X)) (hz : w.heap[h]? = some (.cells cur 167 (0, 0))) (hk : k < cur.size) (hcx : 1 ≤ cx) (hcz : 1 ≤ cz) :
    Calls Tryz.prog 181 #[.slice (some ⟨h, k, none⟩) 1 cz, .slice (some ⟨g, 0, none⟩) 1 cx, .int .u64 s] w (LvOk X s h k w) := by
  have b1 : ((s : Int) == 0) = false := by simp; omega
  have a1 : bits .and .u64 (s : Int) 63 = s := and63 ⟨s, hs⟩
  have a2 : bits .and .u64 (64 - (s : Int)) 63 = 64 - (s : Int) := and64 ⟨s, hs⟩ hs0
  have hsi : (s : Int) < 64 := by omega
  have hs1 : (1 : Int) ≤ s := by omega
  obtain ⟨v, hv⟩ : ∃ v, cur[k]? = some v := ⟨_, Array.getElem?_eq_getElem hk⟩
  have c1 : w.cell? ⟨h, k, none⟩ = some v := by rw [blk_cell hz k]; exact hv
  have f1 : w.frozen? ⟨h, k, none⟩ = false := blk_frozen hz _
  clear hz hk hv
  go_enter Tryz.func181, Tryz.ntmps181
  go_wp2_with fail
  go_loopw [8] (fun i W => i = .int .i64 0 ∧ W = w) (fun i _ => 0)
  case atStart => exact ⟨rfl, rfl⟩
  case round =>
    obtain ⟨rfl, rfl⟩ := hrel
    go_wp2_with fail
    go_ret
    refine ⟨?_, ?_⟩
    · show Ending.returned (Value.int .u64 ((X : Int) / 2 ^ (64 - s))) = _
      rw [shr_cast]
    · rw [wrap_shl]

set_option maxHeartbeats 1000000 in
theorem lshVU_1 (X s h k cz g cx : Nat) (cur : Array Value) (w : World) (hs0 : 0 < s) (hs : s < 64) (hx : w.cell? ⟨g, 0, none⟩ = some (.int .u64 X)) (hz : w.heap[h]? = some (.cells cur 167 (0, 0))) (hk : k < cur.size) (hcx : 1 ≤ cx) (hcz : 1 ≤ cz) :
    Calls Tryz.prog 133 #[.slice (some ⟨h, k, none⟩) 1 cz, .slice (some ⟨g, 0, none⟩) 1 cx, .int .u64 s] w (LvOk X s h k w) := by
  have H := Aside0.mk (lshVU_g1 X s h k cz g cx cur w hs0 hs hx hz hk hcx hcz)
  clear hx hz hk
  go_enter Tryz.func133, Tryz.ntmps133
  go_wp2_with fail
  refine H.out.mono ?_
  rintro e w' ⟨rfl, rfl⟩
  go_wp2_with fail
  go_ret
  exact ⟨rfl, rfl⟩

/-- A word whose highest bit is brought to the top, in its own room. -/
theorem fnorm_one (X g c : Nat) (cur : Array Value) (w : World) (hX0 : 0 < X) (hX : X < 18446744073709551616) (hz : w.heap[g]? = some (.cells cur 167 (0, 0))) (hx : cur[0]? = some (.int .u64 X)) (hc : 1 ≤ c) :
    Calls Tryz.prog 201 #[.slice (some ⟨g, 0, none⟩) 1 c] w fun e w' => ∃ t : Nat, t < 64 ∧ e = .returned (.int .i64 t) ∧ (w' = w ∨ ∃ y, w' = w.setCell ⟨g, 0, none⟩ (.int .u64 y)) := by
  obtain ⟨s, hs, -, -, hN⟩ := nlz_any X hX0 hX
  have HN := Lib.hid hN
  have c1 : w.cell? ⟨g, 0, none⟩ = some (.int .u64 X) := by rw [blk_cell hz 0]; exact hx
  have hk : 0 < cur.size := (Array.getElem?_eq_some_iff.1 hx).1
  have HZ := Aside0.mk hz
  clear hN hx hz hX hX0
  rcases Nat.eq_zero_or_pos s with rfl | hs0
  · go_enter Tryz.func201, Tryz.ntmps201
    go_wp2_with fail
    refine (HN.out _).mono ?_
    rintro e w' ⟨rfl, rfl⟩
    go_wp2_with fail
    go_ret
    exact ⟨0, by decide, rfl, .inl rfl⟩
  · have HL := Aside0.mk (lshVU_1 X s g 0 c g c cur w hs0 hs c1 HZ.out hk hc hc)
    have hs1 : (0 : Int) < s := by omega
    have hs2 : (s : Int) < 64 := by omega
    go_enter Tryz.func201, Tryz.ntmps201
    go_wp2_with fail
    refine (HN.out _).mono ?_
    rintro e w' ⟨rfl, rfl⟩
    go_wp2_with fail
    refine HL.out.mono ?_
    rintro e w' ⟨rfl, rfl⟩
    go_wp2_with fail
    go_ret
    exact ⟨s, hs, rfl, .inr ⟨_, rfl⟩⟩

theorem setCells_blk (b : Nat) (z : Value) : ∀ (n o : Nat) (W : World) (cur : Array Value), W.heap[b]? = some (.cells cur 167 (0, 0)) → o + n ≤ cur.size →
    ∃ cur' : Array Value, (W.setCells b o (List.replicate n z)).heap[b]? = some (.cells cur' 167 (0, 0)) ∧ cur'.size = cur.size ∧ (∀ i, o ≤ i → i < o + n → cur'[i]? = some z) ∧ (∀ i, (i < o ∨ o + n ≤ i) → cur'[i]? = cur[i]?)
  | 0, o, W, cur, h, _ => ⟨cur, h, rfl, fun i h1 h2 => absurd h2 (by omega), fun i _ => rfl⟩
  | n + 1, o, W, cur, h, hs => by
    obtain ⟨cur', h1, h2, h3, h4⟩ := setCells_blk b z n (o + 1) (W.setCell ⟨b, o, none⟩ z) (cur.setIfInBounds o z) (blk_set h o z) (by simp; omega)
    have hoc : o < cur.size := by omega
    refine ⟨cur', h1, by simpa using h2, fun i hi1 hi2 => ?_, fun i hi => ?_⟩
    · by_cases he : i = o
      · rw [he, h4 o (.inl (by omega)), Array.getElem?_setIfInBounds, if_pos rfl, if_pos hoc]
      · exact h3 i (by omega) (by omega)
    · rw [h4 i (by omega), Array.getElem?_setIfInBounds, if_neg (by omega)]

theorem only_own {a w w1 : World} {g h : Nat} (H : a.grownBy w (some g)) (k : w.grownBy w1 (some h)) (hh : h = g ∨ a.heap.size ≤ h) : a.grownBy w1 (some g) :=
  ⟨k.os.trans H.os, k.tape.trans H.tape, k.output.trans H.output, Nat.le_trans H.size k.size, fun i hi hne => (k.block i (Nat.lt_of_lt_of_le hi H.size) (by
    have h1 : i ≠ g := by simpa using hne
    have h2 : i ≠ h := by omega
    simpa using h2)).trans (H.block i hi hne)⟩

theorem only_setCells {a : World} {b : Nat} : ∀ (vs : List Value) (o : Nat) (w : World), a.grownBy w (some b) → a.grownBy (w.setCells b o vs) (some b)
  | [], _, _, h => h
  | v :: r, o, w, h => only_setCells r (o + 1) _ (only_setCell (p := ⟨b, o, none⟩) h (.inl rfl) v)

theorem only_setRow (W : World) (h : Nat) (cs : Array Value) : W.grownBy (W.setRow h cs) (some h) :=
  ⟨rfl, rfl, rfl, by simp [World.setRow], fun i hi hne => setRow_other W h i cs (by simpa using hne)⟩

/-- clear of the first k words. -/
theorem clear_words (W : World) (h k ch : Nat) (cur : Array Value) (base : Nat) (hb : base ≤ h) (hg : W.heap[h]? = some (.cells cur 167 (0, 0))) (hk : k ≤ cur.size) :
    ∃ (cur' : Array Value) (W' : World), W'.heap[h]? = some (.cells cur' 167 (0, 0)) ∧ cur'.size = cur.size ∧ (∀ i, i < k → cur'[i]? = some (.int .u64 0)) ∧ (∀ i, k ≤ i → cur'[i]? = cur[i]?) ∧ W.grownBy W' (some h) ∧
      ∀ ty, (Builtin.clear_ #[114] ty #[.slice (some ⟨h, 0, none⟩) k ch]).run Tryz.prog W = .ok (.tuple #[]) W' := by
  obtain ⟨cur', h1, h2, h3, h4⟩ := setCells_blk h (.int .u64 0) k 0 W cur hg (by omega)
  refine ⟨cur', W.setCells h 0 (List.replicate k (.int .u64 0)), h1, h2, fun i hi => h3 i (by omega) (by omega), fun i hi => h4 i (by omega), only_setCells _ _ _ (only_refl _ _), fun ty => ?_⟩
  rcases Nat.eq_zero_or_pos k with rfl | hk0
  · simp [Builtin.clear_, run_underlying Tryz.underlying114, World.setCells]
  · refine Lib.run_clear_slice W 114 167 ty _ Tryz.underlying114 (fun _ => by kernel_rfl) rfl rfl h 0 k ch hk0 (fun j hj => ?_) (fun j hj => blk_frozen hg _)
    rw [Nat.zero_add, blk_cell hg j, Array.getElem?_eq_getElem (by omega)]
    rfl

/-- copy of one word. -/
theorem copy_one (W : World) (h k ch : Nat) (cur : Array Value) (ad : Addr) (c X : Nat) (hg : W.heap[h]? = some (.cells cur 167 (0, 0))) (hk : k < cur.size) (hx : W.cell? ad = some (.int .u64 X)) (base : Nat) (hb : base ≤ h) :
    ∃ (cur' : Array Value) (W' : World), cur'.size = cur.size ∧ cur'[k]? = some (.int .u64 X) ∧ W'.heap[h]? = some (.cells cur' 167 (0, 0)) ∧ W.grownBy W' (some h) ∧
      ∀ ty, (Builtin.copy_ #[114, 114] ty #[.slice (some ⟨h, k, none⟩) 1 ch, .slice (some ad) 1 c]).run Tryz.prog W = .ok (.int .i64 1) W' := by
  refine ⟨(cur.toList.take k ++ [Value.int .u64 X] ++ cur.toList.drop (k + 1)).toArray, W.setRow h (cur.toList.take k ++ [Value.int .u64 X] ++ cur.toList.drop (k + 1)).toArray, ?_, ?_, setRow_heap W h _ _ _ _ hg, only_setRow W h _, fun ty => ?_⟩
  · simp; omega
  · have : (cur.toList.take k).length = k := by simp; omega
    rw [List.getElem?_toArray, List.append_assoc, List.getElem?_append_right (by omega), this]
    simp
  · exact run_copy_row (P := Tryz.prog) W 114 114 ty 167 h k 1 ch ad 1 c cur 167 [.int .u64 X] Tryz.underlying114 size167 hg rfl (fun j v hj => by
      rcases j with _ | j
      · simp at hj; subst hj; exact hx
      · simp at hj) (by simp; omega) (fun v hv => by simp at hv; subst hv; rfl)

/-- Where lsh's room lies behind make. -/
def LsC (base X g k : Nat) (w : World) (v0 : Value) (W : World) : Prop :=
  ∃ h ch curh, v0 = .slice (some ⟨h, 0, none⟩) (k + 2) ch ∧ base ≤ h ∧ W.heap[h]? = some (.cells curh 167 (0, 0)) ∧ curh.size = ch ∧ k + 2 ≤ ch ∧ ch ≤ 9223372036854775807 ∧ W.cell? ⟨g, 0, none⟩ = some (.int .u64 X) ∧ w.grownBy W (some g) ∧ (h = g ∨ w.heap.size ≤ h)

/-- What lsh leaves: in its own room or in a new one. -/
def LhOk (base g V : Nat) (w : World) (e : Ending) (w' : World) : Prop := ∃ h i c, e = .returned (.slice (some ⟨h, 0, none⟩) i c) ∧ (h = g ∨ w.heap.size ≤ h) ∧ Nt w' base (.slice (some ⟨h, 0, none⟩) i c) (figs 18446744073709551616 V) ∧ w.grownBy w' (some g)

theorem make_room (base X g cap k : Nat) (cur : Array Value) (w : World) (hb : base ≤ w.heap.size) (hbg : base ≤ g) (hg : w.heap[g]? = some (.cells cur 167 (0, 0))) (hsz : cur.size = cap) (hcm : cap ≤ 9223372036854775807) (hk : k ≤ 5000) (hx : cur[0]? = some (.int .u64 X)) :
    Calls Tryz.prog 130 #[.slice (some ⟨g, 0, none⟩) 1 cap, .int .i64 (1 + (k : Int) + 1)] w fun e W => ∃ v0, e = .returned v0 ∧ LsC base X g k w v0 W := by
  have hx' : w.cell? ⟨g, 0, none⟩ = some (.int .u64 X) := by rw [blk_cell hg 0]; exact hx
  rw [show (1 + (k : Int) + 1) = ((k + 2 : Nat) : Int) by omega]
  by_cases h : k + 2 ≤ cap
  · refine (make_fit (some ⟨g, 0, none⟩) 1 cap (k + 2) w h hcm).mono ?_
    rintro e w' ⟨rfl, rfl⟩
    exact ⟨_, rfl, g, cap, cur, rfl, hbg, hg, hsz, h, hcm, hx', only_refl _ _, .inl rfl⟩
  · refine (make_new (some ⟨g, 0, none⟩) 1 cap (k + 2) w (by omega) (by omega) (by omega)).mono ?_
    rintro e w' ⟨rfl, rfl⟩
    exact ⟨_, rfl, w.heap.size, _, _, rfl, hb, heap_alloc_new w _, madeCells_size _, by omega, by omega, pw_cell_below (below_alloc (Below.refl w.heap.size w) _) hx', only_alloc (only_refl _ _) _, .inr (Nat.le_refl _)⟩

/-- The words of a word that was shifted. -/
theorem lsh_words (X k t : Nat) (ht0 : 0 < t) (ht : t < 64) (hX : X < 18446744073709551616) :
    Dg (18446744073709551616 : Nat) (List.replicate k 0 ++ [((X * 2 ^ t % 18446744073709551616 : Nat) : Int), ((X / 2 ^ (64 - t) : Nat) : Int)]) ∧
    val (18446744073709551616 : Nat) (List.replicate k 0 ++ [((X * 2 ^ t % 18446744073709551616 : Nat) : Int), ((X / 2 ^ (64 - t) : Nat) : Int)]) = ((X * 2 ^ (64 * k + t) : Nat) : Int) := by
  have hPQ : 2 ^ (64 - t) * 2 ^ t = 18446744073709551616 := by rw [← Nat.pow_add, show 64 - t + t = 64 by omega]
  have h1 : X * 2 ^ t % 18446744073709551616 < 18446744073709551616 := Nat.mod_lt _ (by decide)
  have h2 : X / 2 ^ (64 - t) < 18446744073709551616 := Nat.lt_of_le_of_lt (Nat.div_le_self _ _) hX
  have h3 : X * 2 ^ t % 18446744073709551616 + 18446744073709551616 * (X / 2 ^ (64 - t)) = X * 2 ^ t := by
    have e : X * 2 ^ t / 18446744073709551616 = X / 2 ^ (64 - t) := by
      rw [← hPQ]; exact Nat.mul_div_mul_right _ _ (Nat.two_pow_pos t)
    rw [← e]; exact Nat.mod_add_div _ _
  refine ⟨Dg_append.2 ⟨fun x hx => by rw [List.eq_of_mem_replicate hx]; decide, ?_⟩, ?_⟩
  · intro x hx
    simp only [List.mem_cons, List.not_mem_nil, or_false] at hx
    rcases hx with rfl | rfl
    · generalize X * 2 ^ t % 18446744073709551616 = M at h1 ⊢; omega
    · generalize X / 2 ^ (64 - t) = M at h2 ⊢; omega
  · rw [val_append, val_zero (fun x hx => List.eq_of_mem_replicate hx), val_cons, val_cons, val_nil, List.length_replicate, Int.mul_zero, Int.add_zero, Int.zero_add, ← Int.natCast_mul, ← Int.natCast_add, h3, ← Int.natCast_pow, ← Int.natCast_mul]
    congr 1
    rw [show (18446744073709551616 : Nat) = 2 ^ 64 by decide, ← Nat.pow_mul, Nat.pow_add, Nat.mul_comm, Nat.mul_assoc, Nat.mul_comm (2 ^ t)]

theorem lsh_words0 (X k : Nat) (hX : X < 18446744073709551616) :
    Dg (18446744073709551616 : Nat) (List.replicate k 0 ++ [(X : Int), 0]) ∧ val (18446744073709551616 : Nat) (List.replicate k 0 ++ [(X : Int), 0]) = ((X * 2 ^ (64 * k) : Nat) : Int) := by
  refine ⟨Dg_append.2 ⟨fun x hx => by rw [List.eq_of_mem_replicate hx]; decide, ?_⟩, ?_⟩
  · intro x hx
    simp only [List.mem_cons, List.not_mem_nil, or_false] at hx
    rcases hx with rfl | rfl <;> omega
  · rw [val_append, val_zero (fun x hx => List.eq_of_mem_replicate hx), val_cons, val_cons, val_nil, List.length_replicate, Int.mul_zero, Int.add_zero, Int.mul_zero, Int.add_zero, Int.zero_add, ← Int.natCast_pow, ← Int.natCast_mul]
    congr 1
    rw [show (18446744073709551616 : Nat) = 2 ^ 64 by decide, ← Nat.pow_mul, Nat.mul_comm]

/-- Behind the last word: clear, norm. -/
theorem getD_rep (k i : Nat) (a b : Int) : (List.replicate k 0 ++ [a, b]).getD i 0 = if i < k then 0 else if i = k then a else if i = k + 1 then b else 0 := by
  rw [List.getD_eq_getElem?_getD, List.getElem?_append]
  by_cases h : i < k
  · simp [h]
  · simp only [List.length_replicate, h, if_false]
    rcases Nat.lt_or_ge i (k + 2) with h2 | h2
    · rcases Nat.eq_or_lt_of_le (Nat.le_of_not_lt h) with rfl | h3
      · simp
      · have : i = k + 1 := by omega
        subst this
        simp
    · rw [List.getElem?_eq_none (by simp; omega)]
      simp [show i ≠ k by omega, show i ≠ k + 1 by omega]

set_option maxHeartbeats 2000000 in
set_option maxRecDepth 100000 in
theorem lsh_one (base X g cap s : Nat) (cur : Array Value) (w : World) (hX0 : 0 < X) (hX : X < 18446744073709551616) (hs0 : 0 < s) (hs : s ≤ 5000) (hb : base ≤ w.heap.size) (hbg : base ≤ g) (hg : w.heap[g]? = some (.cells cur 167 (0, 0)))
    (hcap : 1 ≤ cap) (hcm : cap ≤ 9223372036854775807) (hsz : cur.size = cap) (hx : cur[0]? = some (.int .u64 X)) :
    Calls Tryz.prog 93 #[.slice (some ⟨g, 0, none⟩) 1 cap, .slice (some ⟨g, 0, none⟩) 1 cap, .int .u64 s] w (LhOk base g (X * 2 ^ s) w) := by
  obtain ⟨k, hk⟩ : ∃ k, k = s / 64 := ⟨_, rfl⟩
  obtain ⟨t, ht⟩ : ∃ t, t = s % 64 := ⟨_, rfl⟩
  have hst : s = 64 * k + t := by omega
  have ht64 : t < 64 := by omega
  have HM := Aside0.mk (make_room base X g cap k cur w hb hbg hg hsz hcm (by omega) hx)
  have d1 : (s : Int) / 64 = k := by omega
  have d2 : (s : Int) % 64 = t := by omega
  have b1 : ((s : Int) == 0) = false := by simp; omega
  have hki : (k : Int) ≤ 100 := by omega
  have HB := Aside0.mk hb
  have HST := Aside0.mk hst
  have HX := Aside0.mk hX
  have HX0 := Aside0.mk hX0
  clear hk ht hst hX hX0 hb hbg hg hx hcm hsz
  rcases Nat.eq_zero_or_pos t with ht0 | ht0
  · have b2 : ((t : Int) == 0) = true := by simp; omega
    have HT := Aside0.mk ht0
    clear ht0
    go_enter Tryz.func93, Tryz.ntmps93
    go_wp2_with fail
    refine HM.out.mono ?_
    rintro e W ⟨v0, rfl, h, ch, curh, rfl, hbh, hgh, hsh, hkc, hcm, hxw, hbw, hgo⟩
    obtain ⟨c1, W1, hs1, hv1, hg1, hb1, hcopy⟩ := copy_one W h k (ch - k) curh ⟨g, 0, none⟩ cap X hgh (by omega) hxw base hbh
    have HG1 := Aside0.mk hg1
    have HS1 := Aside0.mk (And.intro hs1 hsh)
    have HV1 := Aside0.mk hv1
    obtain ⟨v2, hv2⟩ : ∃ v, c1[1 + k]? = some v := ⟨_, Array.getElem?_eq_getElem (by omega)⟩
    have x1 : W1.cell? ⟨h, 1 + k, none⟩ = some v2 := by rw [blk_cell hg1 (1 + k)]; exact hv2
    have f1 : W1.frozen? ⟨h, 1 + k, none⟩ = false := blk_frozen hg1 _
    obtain ⟨c2, W2, hg2, hs2, hz2, hr2, hb2, hclear⟩ := clear_words (W1.setCell ⟨h, 1 + k, none⟩ (.int .u64 0)) h k ch _ base hbh (blk_set hg1 (1 + k) _) (by simp; omega)
    have HB2 := Aside0.mk (only_own (only_setCell (p := ⟨h, 1 + k, none⟩) (only_own hbw hb1 hgo) hgo (.int .u64 0)) hb2 hgo)
    have HGO := Aside0.mk hgo
    have HG2 := Aside0.mk hg2
    have HS2 := Aside0.mk (show c2.size = ch by rw [hs2]; simp; omega)
    have HC2 := Lib.hid (show ∀ i, i < k + 2 → c2[i]? = some (.int .u64 ((List.replicate k 0 ++ [(X : Int), 0]).getD i 0)) from fun i hi => by
      rw [getD_rep]
      by_cases hik : i < k
      · rw [hz2 i hik, if_pos hik]
      · rw [hr2 i (by omega), if_neg hik, Array.getElem?_setIfInBounds]
        by_cases hik2 : i = k
        · subst hik2; rw [if_neg (by omega), if_pos rfl]; exact hv1
        · obtain rfl : i = 1 + k := by omega
          rw [if_pos rfl, if_pos (by omega), if_neg (by omega), if_pos (by omega)])
    clear hgh hsh hxw hbw hs1 hg1 hb1 hv1 hv2 hg2 hs2 hz2 hr2 hb2 hgo HG1 HS1 HV1
    go_wp2_with fail
    refine (norm_any h ch (k + 2) (List.replicate k 0 ++ [(X : Int), 0]) _ (by omega) (by omega) (by omega) (fun i hi => by rw [blk_cell HG2.out i]; exact HC2.out i hi)).mono ?_
    rintro e w2 ⟨i, hi, hz, ht, rfl, rfl⟩
    have HI := Aside0.mk (And.intro hi (And.intro hz ht))
    clear hi hz ht
    go_wp2_with fail
    go_ret
    obtain ⟨hi, hz, ht⟩ := HI.out
    obtain ⟨hd, hv⟩ := lsh_words0 X k HX.out
    refine ⟨_, _, _, rfl, HGO.out, ?_, HB2.out⟩
    have he : X * 2 ^ s = X * 2 ^ (64 * k) / 1 := by rw [Nat.div_one, HST.out, HT.out, Nat.add_zero]
    rw [he]
    exact dy_norm (X := X * 2 ^ (64 * k)) (y := 1) hbh (by omega) (by omega) HS2.out rfl (by simp) HC2.out HG2.out hd (by rw [Nat.div_one]; exact hv) hi hz ht
  · have b2 : ((t : Int) == 0) = false := by simp; omega
    have ht1 : (0 : Int) < t := by omega
    have ht2 : (t : Int) < 64 := by omega
    go_enter Tryz.func93, Tryz.ntmps93
    go_wp2_with fail
    refine HM.out.mono ?_
    rintro e W ⟨v0, rfl, h, ch, curh, rfl, hbh, hgh, hsh, hkc, hcm, hxw, hbw, hgo⟩
    have HV := Aside0.mk (lshVU_1 X t h k (ch - k) g cap curh W ht0 ht64 hxw hgh (by omega) hcap (by omega))
    obtain ⟨lo, hlo⟩ : ∃ y : Int, y = ((X * 2 ^ t % 18446744073709551616 : Nat) : Int) := ⟨_, rfl⟩
    obtain ⟨hv, hhv⟩ : ∃ y : Int, y = ((X / 2 ^ (64 - t) : Nat) : Int) := ⟨_, rfl⟩
    have hgk := blk_set hgh k (.int .u64 lo)
    obtain ⟨v2, hv2⟩ : ∃ v, (curh.setIfInBounds k (.int .u64 lo))[1 + k]? = some v := ⟨_, Array.getElem?_eq_getElem (by simp; omega)⟩
    have x1 : (W.setCell ⟨h, k, none⟩ (.int .u64 lo)).cell? ⟨h, 1 + k, none⟩ = some v2 := by rw [blk_cell hgk (1 + k)]; exact hv2
    have f1 : (W.setCell ⟨h, k, none⟩ (.int .u64 lo)).frozen? ⟨h, 1 + k, none⟩ = false := blk_frozen hgk _
    obtain ⟨c2, W2, hg2, hs2, hz2, hr2, hb2, hclear⟩ := clear_words ((W.setCell ⟨h, k, none⟩ (.int .u64 lo)).setCell ⟨h, 1 + k, none⟩ (.int .u64 hv)) h k ch _ base hbh (blk_set hgk (1 + k) _) (by simp; omega)
    have HB2 := Aside0.mk (only_own (only_setCell (p := ⟨h, 1 + k, none⟩) (only_setCell (p := ⟨h, k, none⟩) hbw hgo (.int .u64 lo)) hgo (.int .u64 hv)) hb2 hgo)
    have HGO := Aside0.mk hgo
    have HG2 := Aside0.mk hg2
    have HS2 := Aside0.mk (show c2.size = ch by rw [hs2]; simp; omega)
    have HC2 := Lib.hid (show ∀ i, i < k + 2 → c2[i]? = some (.int .u64 ((List.replicate k 0 ++ [lo, hv]).getD i 0)) from fun i hi => by
      rw [getD_rep]
      by_cases hik : i < k
      · rw [hz2 i hik, if_pos hik]
      · rw [hr2 i (by omega), if_neg hik, Array.getElem?_setIfInBounds]
        by_cases hik2 : i = k
        · subst hik2; rw [if_neg (by omega), if_pos rfl, Array.getElem?_setIfInBounds, if_pos rfl, if_pos (by omega)]
        · obtain rfl : i = 1 + k := by omega
          rw [if_pos rfl, if_pos (by simp; omega), if_neg (by omega), if_pos (by omega)])
    have HLO := Aside0.mk hlo
    have HHV := Aside0.mk hhv
    clear hgh hsh hxw hbw hgk hv2 hg2 hs2 hz2 hr2 hb2 hgo hlo hhv
    go_wp2_with fail
    refine HV.out.mono ?_
    rintro e w' ⟨rfl, rfl⟩
    rw [← HLO.out, ← HHV.out]
    go_wp2_with fail
    refine (norm_any h ch (k + 2) (List.replicate k 0 ++ [lo, hv]) _ (by omega) (by omega) (by omega) (fun i hi => by rw [blk_cell HG2.out i]; exact HC2.out i hi)).mono ?_
    rintro e w2 ⟨i, hi, hz, ht, rfl, rfl⟩
    have HI := Aside0.mk (And.intro hi (And.intro hz ht))
    clear hi hz ht
    go_wp2_with fail
    go_ret
    obtain ⟨hi, hz, ht⟩ := HI.out
    obtain ⟨hd, hvl⟩ := lsh_words X k t ht0 ht64 HX.out
    rw [← HLO.out, ← HHV.out] at hd hvl
    refine ⟨_, _, _, rfl, HGO.out, ?_, HB2.out⟩
    have he : X * 2 ^ s = X * 2 ^ (64 * k + t) / 1 := by rw [Nat.div_one, HST.out]
    rw [he]
    exact dy_norm (X := X * 2 ^ (64 * k + t)) (y := 1) hbh (by omega) (by omega) HS2.out rfl (by simp) HC2.out HG2.out hd (by rw [Nat.div_one]; exact hvl) hi hz ht

end Go.Proofs.YtgpoplfgngiilaaGreatDoor

namespace Go.Proofs.YtgpoplfgngiilaaGreatDoor
open Go.RowKit Go.Proofs.YtgpoplfgngiilaaGreatDoorW.PrintWords PAll Pl

/-- The text: two bytes, the figures u with a point ahead of the figure q, a letter p. -/
structure TxP (q : Nat) (s u : ByteArray) : Prop where
  size : s.size ≤ 100000
  qle : q ≤ u.size
  pos : 0 < u.size
  at0 : ∀ j : Nat, j < q → bt s (2 + j : Nat) = bt u j
  dot : bt s (2 + q : Nat) = 46
  at1 : ∀ j : Nat, q ≤ j → j < u.size → bt s (3 + j : Nat) = bt u j
  pch : bt s (3 + u.size : Nat) = 112 ∨ bt s (3 + u.size : Nat) = 80
  room : 3 + u.size < s.size
  fig : ∀ j : Nat, j < u.size → bt u j ≠ 95 ∧ isFig 16 (bt u j)

/-- Where the reader stands: ahead of the point or behind it, k figures read, the byte at hand at place p. -/
def StP (q n : Nat) (fb : Bool) (k p : Nat) : Prop := (fb = true ∧ k ≤ q ∧ p = 2 + k) ∨ (fb = false ∧ q ≤ k ∧ k ≤ n ∧ p = 3 + k)

/-- Groups of figures: ws are the full words, the highest first. -/
structure ScQ (g : Nat) (u : ByteArray) (base : Nat) (w W : World) (k Z i d : Nat) (ws : List Int) (v : Value) : Prop where
  k_le : k ≤ u.size
  gp : Gp 16 u k Z i d
  own : Nt W base v ws
  dg : Dg (18446744073709551616 : Nat) ws
  val_ : val (18446744073709551616 : Nat) ws.reverse = Z
  len : 16 * ws.length + i = k
  only : w.grownBy W (some g)

theorem ScQ.start {g : Nat} {u : ByteArray} {base : Nat} {w W : World} (ho : w.grownBy W (some g)) : ScQ g u base w W 0 0 0 0 [] (.slice none 0 0) :=
  ⟨Nat.zero_le _, Gp.start 16 u, own_nil _ _ _ _, Dg_nil _, rfl, rfl, ho⟩
theorem ScQ.drewN {g : Nat} {u : ByteArray} {base : Nat} {w W : World} {k Z i d : Nat} {ws : List Int} {v : Value} (h : ScQ g u base w W k Z i d ws v) (n : Nat) : ScQ g u base w (W.drewN n) k Z i d ws v :=
  ⟨h.k_le, h.gp, pw_own_below h.own (pw_below_drewN (Below.refl _ _) n), h.dg, h.val_, h.len, only_drewN h.only n⟩
theorem ScQ.move {g : Nat} {u : ByteArray} {base : Nat} {w W W2 : World} {k Z i d : Nat} {ws : List Int} {v : Value} (h : ScQ g u base w W k Z i d ws v) (ho : W.grownBy W2 (some g)) (hg : g < base) : ScQ g u base w W2 k Z i d ws v :=
  ⟨h.k_le, h.gp, Nt_only h.own ho hg, h.dg, h.val_, h.len, only_trans h.only ho⟩
theorem ScQ.dig {g : Nat} {u : ByteArray} {base : Nat} {w W W2 : World} {k Z i d : Nat} {ws : List Int} {v : Value} (h : ScQ g u base w W k Z i d ws v) (hk : k < u.size) (x : Nat) (hx : (dv (bt u k)).toNat = x) (hxb : x < 16) (h95 : bt u k ≠ 95) (ho : W.grownBy W2 (some g)) (hg : g < base) :
    ScQ g u base w W2 (k + 1) Z (i + 1) (d * 16 + x) ws v :=
  ⟨hk, h.gp.fig x hx hxb h95, Nt_only h.own ho hg, h.dg, h.val_, by have := h.len; omega, only_trans h.only ho⟩
theorem ScQ.full {g : Nat} {u : ByteArray} {base : Nat} {w W W1 W2 : World} {k Z i d : Nat} {ws : List Int} {v v1 : Value} (h : ScQ g u base w W k Z i d ws v) (hk : k < u.size) (x : Nat) (hx : (dv (bt u k)).toNat = x) (hxb : x < 16) (h95 : bt u k ≠ 95) (hi : i + 1 = 16)
    (Y : Int) (hY : Y = ((d * 16 + x : Nat) : Int)) (hv : Nt W1 base v1 (ws ++ [Y])) (hb1 : Below base W W1) (ho : W1.grownBy W2 (some g)) (hg : g < base) (hw : w.heap.size ≤ base) :
    ScQ g u base w W2 (k + 1) (Z * 16 ^ 16 + (d * 16 + x)) 0 0 (ws ++ [Y]) v1 := by
  have hgp := h.gp.fig x hx hxb h95
  rw [hi] at hgp
  have hlt := hgp.lt
  have hbn : 16 ^ 16 = 18446744073709551616 := by decide
  rw [hbn] at hlt
  refine ⟨hk, hgp.full, Nt_only hv ho hg, Dg_append.2 ⟨h.dg, fun z hz => by rw [List.mem_singleton] at hz; subst hz; omega⟩, ?_, by have := h.len; simp; omega, only_trans (only_base h.only hb1 hw) ho⟩
  rw [val_rev_snoc, h.val_, hbn, hY]
  generalize d * 16 + x = m
  omega
theorem ScQ.end0 {g : Nat} {u : ByteArray} {base : Nat} {w W : World} {Z d : Nat} {ws : List Int} {v : Value} (h : ScQ g u base w W u.size Z 0 d ws v) (hp : 0 < u.size) :
    ws ≠ [] ∧ (val (18446744073709551616 : Nat) ws.reverse).toNat = pv 16 u u.size := by
  have h1 := h.gp.lt
  have h2 := h.gp.eq
  rw [Nat.pow_zero] at h1 h2
  have hv := h.val_
  refine ⟨fun h0 => ?_, by rw [hv]; omega⟩
  have := h.len
  subst h0
  simp at this
  omega
theorem ScQ.endj {g : Nat} {u : ByteArray} {base : Nat} {w W : World} {Z j d : Nat} {ws : List Int} {v : Value} (h : ScQ g u base w W u.size Z j d ws v) (hj : j < 16) (Y : Int) (hY : Y = ((d * 16 ^ (16 - j) : Nat) : Int)) :
    d * 16 ^ (16 - j) < 18446744073709551616 ∧ Dg (18446744073709551616 : Nat) (ws ++ [Y]) ∧ (val (18446744073709551616 : Nat) (ws ++ [Y]).reverse).toNat = pv 16 u u.size * 16 ^ (16 - j) := by
  have hlt := h.gp.lt
  have hbn : 16 ^ 16 = 18446744073709551616 := by decide
  have hpp : 16 ^ j * 16 ^ (16 - j) = 18446744073709551616 := by rw [← Nat.pow_add, show j + (16 - j) = 16 by omega, hbn]
  have h1 : d * 16 ^ (16 - j) < 18446744073709551616 := by
    rw [← hpp]
    exact Nat.mul_lt_mul_of_pos_right hlt (Nat.pow_pos (by omega))
  refine ⟨h1, Dg_append.2 ⟨h.dg, fun z hz => by rw [List.mem_singleton] at hz; subst hz; omega⟩, ?_⟩
  rw [val_rev_snoc, h.val_, h.gp.eq, Nat.add_mul, Nat.mul_assoc, hpp, hY]
  omega
theorem TxP.pv_len {q : Nat} {s u : ByteArray} (hT : TxP q s u) (m : Nat) (hm : 16 ^ m ≤ 18446744073709551616) : (figs 18446744073709551616 (pv 16 u u.size * 16 ^ m)).length ≤ 100000 := by
  have h1 := pv_lt (b := 16) (by decide) (fun j hj => .inr (hT.fig j hj).2) u.size (Nat.le_refl _)
  have h2 : (figs 18446744073709551616 (pv 16 u u.size * 16 ^ m)).length ≤ u.size + 1 := by
    refine figs_length_le (by decide) _ _ ?_
    rw [Nat.pow_succ]
    exact Nat.lt_of_lt_of_le (Nat.mul_lt_mul_of_pos_right h1 (Nat.pow_pos (by omega))) (Nat.mul_le_mul (Nat.pow_le_pow_left (by omega) _) hm)
  have := hT.room
  have := hT.size
  omega

/-- What scan answers: the figures' number, base 16, and how many figures stand behind the point, below 0; the letter p is not read. -/
def SqOk (q V n g : Nat) (s : ByteArray) (w : World) (e : Ending) (w' : World) : Prop :=
  ∃ (v : Value), e = .returned (.tuple #[v, .int .i64 16, .int .i64 ((q : Int) - n), .nilIface]) ∧ Nt w' w.heap.size v (figs 18446744073709551616 V) ∧ RdAt w' g s (3 + n : Nat) (-1) ∧ w.grownBy w' (some g)

/-- The next byte. -/
theorem sq_next (g : Nat) (s : ByteArray) (p : Nat) (W : World) (hs : s.size ≤ 100000) (hp : p + 1 < s.size) (hr : RdAt W g s (p + 1 : Nat) (-1)) :
    Calls Tryz.prog 110 #[.pointer (some ⟨g, 0, none⟩)] W fun e w' => e = .returned (.tuple #[.int .u8 (bt s (p + 1 : Nat)), .nilIface]) ∧ RdAt w' g s (p + 1 + 1 : Nat) (-1) ∧ W.grownBy w' (some g) :=
  read_some g s (p + 1) (-1) W hs hp hr

/-- The four cases of the byte at hand. -/
theorem StP.cases {q : Nat} {s u : ByteArray} (hT : TxP q s u) {fb : Bool} {k p : Nat} (h : StP q u.size fb k p) :
    (k < u.size ∧ bt s (p : Nat) = bt u k ∧ StP q u.size fb (k + 1) (p + 1)) ∨ (fb = true ∧ k = q ∧ bt s (p : Nat) = 46 ∧ StP q u.size false k (p + 1)) ∨ (fb = false ∧ k = u.size ∧ p = 3 + u.size ∧ (bt s (p : Nat) = 112 ∨ bt s (p : Nat) = 80)) := by
  have hq := hT.qle
  rcases h with ⟨rfl, h1, rfl⟩ | ⟨rfl, h1, h2, rfl⟩
  · rcases Nat.lt_or_ge k q with hl | hg
    · exact .inl ⟨by omega, hT.at0 k hl, .inl ⟨rfl, by omega, by omega⟩⟩
    · obtain rfl : k = q := by omega
      exact .inr (.inl ⟨rfl, rfl, hT.dot, .inr ⟨rfl, Nat.le_refl _, hq, by omega⟩⟩)
  · rcases Nat.lt_or_ge k u.size with hl | hg
    · exact .inl ⟨hl, hT.at1 k h1 hl, .inr ⟨rfl, by omega, by omega, by omega⟩⟩
    · obtain rfl : k = u.size := by omega
      exact .inr (.inr ⟨rfl, rfl, rfl, hT.pch⟩)
theorem StP.le {q n : Nat} {fb : Bool} {k p : Nat} (hq : q ≤ n) (h : StP q n fb k p) : p ≤ 3 + n ∧ k ≤ n := by
  rcases h with ⟨_, h1, rfl⟩ | ⟨_, h1, h2, rfl⟩ <;> omega

set_option maxHeartbeats 1000000 in
theorem rsh_zero (A : Option Addr) (c s : Nat) (hs0 : 0 < s) (hs : s < 64) (hc : c ≤ 9223372036854775807) (w : World) :
    Calls Tryz.prog 153 #[.slice A 0 c, .slice A 0 c, .int .u64 s] w fun e w' => e = .returned (.slice A 0 c) ∧ w = w' := by
  have b1 : ((s : Int) == 0) = false := by simp; omega
  have d1 : (s : Int) / 64 = 0 := by omega
  clear hs0
  go_enter Tryz.func153, Tryz.ntmps153
  go_wp2_with fail
  go_ret
  exact ⟨rfl, rfl⟩

theorem Nt_empty {w : World} {base : Nat} {v : Value} (h : Nt w base v []) : ∃ A c, v = .slice A 0 c ∧ c ≤ 9223372036854775807 := by
  rcases h.2 with ⟨e, h0⟩ | ⟨g, cap, cur, e, _, _, hn, hm, _⟩
  · exact ⟨_, _, e, by decide⟩
  · exact ⟨_, _, e, by simpa [maxLen] using hm⟩

/-- rsh at any number. -/
theorem rsh_nt0 (base V s : Nat) (v : Value) (w : World) (hl : (figs 18446744073709551616 V).length ≤ 100000) (hs0 : 0 < s) (hs : s < 64) (hb : base ≤ w.heap.size) (ho : Nt w base v (figs 18446744073709551616 V)) :
    Calls Tryz.prog 153 #[v, v, .int .u64 s] w (RhOk base (V / 2 ^ s) w) := by
  rcases Nat.eq_zero_or_pos V with rfl | hV
  · rw [figs_zero] at ho
    obtain ⟨A, c, rfl, hc⟩ := Nt_empty ho
    refine (rsh_zero A c s hs0 hs hc w).mono ?_
    rintro e w' ⟨rfl, rfl⟩
    exact ⟨_, rfl, by rw [Nat.zero_div, figs_zero]; exact ho, Below.refl _ _⟩
  · exact rsh_nt base V s v w hV hl hs0 hs hb ho
end Go.Proofs.YtgpoplfgngiilaaGreatDoor
