/- told over a great integer: Kind, Val, parts. Literal of package impl at an integer literal. -/
import Derived.Test.YtgpoplfgngiilaaGreatDoorPz
import Derived.Test.YtgpoplfgngiilaaGreatDoorTl
import Derived.Test.YtgpoplfgngiilaaGreatDoorPh
import Derived.Test.YtgpoplfgngiilaaGreatDoorFo2
import Derived.Test.YtgpoplfgngiilaaGreatDoorRf
set_option linter.unusedVariables false
set_option linter.unusedSimpArgs false
namespace Go.Proofs.YtgpoplfgngiilaaGreatDoor
open Go.RowKit Go.Proofs.YtgpoplfgngiilaaGreatDoorW.PrintWords PAll Pl

/-- The package's value of a great integer. -/
def bigv (g : Nat) : Value := .iface 94 (.agg #[.pointer (some ⟨g, 0, none⟩)])

theorem kind94 (g : Nat) (w : World) : Calls Tryz.prog 314 #[.agg #[.pointer (some ⟨g, 0, none⟩)]] w fun e w' => e = .returned (.int .i64 3) ∧ w.alloc (.cells #[.pointer (some ⟨g, 0, none⟩)] 94) = w' := by
  go_enter Tryz.func314, Tryz.ntmps314
  go_wp2
  go_ret
  exact ⟨rfl, rfl⟩

set_option maxHeartbeats 400000 in
set_option maxRecDepth 100000 in
theorem val94 (g : Nat) (w : World) :
    Calls Tryz.prog 57 #[.iface 94 (.agg #[.pointer (some ⟨g, 0, none⟩)])] w fun e w' => e = .returned (.iface 89 (.pointer (some ⟨g, 0, none⟩))) ∧ Below w.heap.size w w' := by
  have t1 := fun W => ta67_94_108 W (.agg #[.pointer (some ⟨g, 0, none⟩)])
  have t2 := fun W => ta67_94_109 W (.agg #[.pointer (some ⟨g, 0, none⟩)])
  have t3 := fun W => ta67_94_88 W (.agg #[.pointer (some ⟨g, 0, none⟩)])
  have t4 := fun W => ta67_94_94 W (.agg #[.pointer (some ⟨g, 0, none⟩)])
  go_enter Tryz.func57, Tryz.ntmps57
  go_wp2
  go_ret
  exact ⟨rfl, below_alloc (Below.refl _ _) _⟩

theorem Nt_Wd {w : World} {base : Nat} {v : Value} {xs : List Int} (h : Nt w base v xs) : Wd (fun k => base ≤ k) w v xs := by
  obtain ⟨A, c, rfl, hr⟩ := own_reads (k := .u64) h
  refine ⟨A, c, rfl, ?_, ?_, ?_⟩
  · rcases h.2 with ⟨e, h0⟩ | ⟨g, cap, cur, e, _, _, hn, _⟩
    · injection e with e1 e2 e3; omega
    · injection e with e1 e2 e3; omega
  · rcases List.eq_nil_or_concat xs with h0 | ⟨ys, y, h0⟩
    · subst h0; exact C_nil _ _ _
    · obtain ⟨ad, rfl, hc⟩ := hr.2.2 (by rw [h0]; simp)
      exact C_mk hr.2.1 (fun i hi => hc i hi)
  · intro ad ha
    subst ha
    exact own_base h _ rfl

set_option maxHeartbeats 1000000 in
set_option maxRecDepth 100000 in
theorem parts94 (g : Nat) (v : Value) (S : Nat → Prop) (xs : List Int) (w : World) (hbk : w.heap[g]? = some (.cells #[.bool false, v] 116 (0, 0))) (hv : Wd S w v xs) (hl : xs.length < 17592186044416) :
    Calls Tryz.prog 40 #[.iface 94 (.agg #[.pointer (some ⟨g, 0, none⟩)])] w fun e w' => ∃ u u2 : Value, e = .returned (.tuple #[.agg #[.bool false, u], u2]) ∧ Wd (fun k => w.heap.size ≤ k) w' u xs ∧ Below w.heap.size w w' := by
  have t1 := fun W => ta20_89_2 W (.pointer (some ⟨g, 0, none⟩))
  have t2 := fun W => ta20_89_89 W (.pointer (some ⟨g, 0, none⟩))
  obtain ⟨W0, hW0⟩ : ∃ W0, W0 = w.alloc (.cells #[.bool false, .slice none 0 0] 24) := ⟨_, rfl⟩
  have hB0 : Below w.heap.size w W0 := by rw [hW0]; exact below_alloc (Below.refl _ _) _
  have hn0 : W0.heap[w.heap.size]? = some (.cells #[.bool false, .slice none 0 0] 24 (0, 0)) := by rw [hW0]; exact heap_alloc_new _ _
  have HB0 := Aside0.mk hB0
  have HN0 := Aside0.mk hn0
  have HBK := Aside0.mk (blk_below hbk hB0)
  have HV := Aside0.mk (Wd_below hv hB0)
  have HL := Aside0.mk hl
  have HW0 := Lib.hid hW0
  clear hW0 hB0 hn0 hbk hv hl
  go_enter Tryz.func40, Tryz.ntmps40
  go_wp2_with fail
  rw [← HW0.out]
  refine (val94 g W0).mono ?_
  rintro e w1 ⟨rfl, hb1⟩
  have HB1 := Aside0.mk (below_step HB0.out hb1)
  have HN1 := Aside0.mk (blk_below HN0.out hb1)
  have HBK1 := Aside0.mk (blk_below HBK.out hb1)
  have HV1 := Aside0.mk (Wd_below HV.out hb1)
  clear hb1
  go_wp2_with fail
  refine (number_wd _ _ v _ _ _ HBK1.out HV1.out HL.out).mono ?_
  rintro e w2 ⟨u, rfl, hu, hb⟩
  obtain ⟨Au, cu, rfl, _⟩ := id hu
  have HU := Aside0.mk hu
  have HB2 := Aside0.mk hb
  have hn3 := blk_alloc (blk_below HN1.out hb) (.cells #[.int .u64 1] 50)
  have hc0 : (w2.alloc (.cells #[.int .u64 1] 50)).cell? ⟨w.heap.size, 0, none⟩ = some (.bool false) := blk_cell hn3 0
  have hc1 : (w2.alloc (.cells #[.int .u64 1] 50)).cell? ⟨w.heap.size, 1, none⟩ = some (.slice none 0 0) := blk_cell hn3 1
  have hf0 : (w2.alloc (.cells #[.int .u64 1] 50)).frozen? ⟨w.heap.size, 0, none⟩ = false := blk_frozen hn3 0
  have hf1 : (w2.alloc (.cells #[.int .u64 1] 50)).frozen? ⟨w.heap.size, 1, none⟩ = false := blk_frozen hn3 1
  have HN3 := Aside0.mk hn3
  clear hu hb hn3
  go_wp2_with fail
  refine bodyPost_ret (results_ct rfl _ _ w.heap.size 24 #[.bool (decide (sgn false xs.length < 0)), .slice Au xs.length cu] (0, 0) _ rfl (blk_put (cs := #[.bool (decide (sgn false xs.length < 0)), .slice none 0 0]) (blk_put (cs := #[.bool false, .slice none 0 0]) HN3.out 0 _ rfl) 1 _ rfl) Tryz.underlying24 rfl (by kernel_rfl)) rfl ?_
  have hs : decide (sgn false xs.length < 0) = false := by unfold sgn; split <;> simp
  rw [hs]
  refine ⟨.slice Au xs.length cu, _, rfl, ?_, ?_⟩
  · have hsz := HB1.out.size
    have hlt := blk_lt HN1.out
    have hu2 := Wd_below HU.out (below_alloc (Below.refl _ _) (.cells #[.int .u64 1] 50))
    exact Wd_mono (Wd_far (Wd_far hu2 (by simp; omega) _) (by simp; omega) _) (fun k hk => by omega)
  · exact ((below_alloc (HB1.out.trans (HB2.out.mono HB1.out.size)) _).setCell (by simp) _).setCell (by simp) _

set_option maxHeartbeats 2000000 in
set_option maxRecDepth 100000 in
theorem told94 (g : Nat) (v : Value) (S : Nat → Prop) (xs : List Int) (w : World) (hbk : w.heap[g]? = some (.cells #[.bool false, v] 116 (0, 0))) (hv : Wd S w v xs) (hl : xs.length < 17592186044416) :
    Calls Tryz.prog 26 #[.iface 94 (.agg #[.pointer (some ⟨g, 0, none⟩)])] w fun e w' => ∃ u : Value, e = .returned (intVal u) ∧ Wd (fun k => w.heap.size ≤ k) w' u (xs) ∧ Below w.heap.size w w' := by
  have HBK := Aside0.mk hbk
  have HV := Aside0.mk hv
  have HXL := Aside0.mk hl
  clear hbk hv hl
  go_enter Tryz.func26, Tryz.ntmps26
  go_wp2_with fail
  refine (kind94 g _).mono ?_
  rintro e w' ⟨rfl, rfl⟩
  go_wp2_with fail
  refine (kind94 g _).mono ?_
  rintro e w' ⟨rfl, rfl⟩
  go_wp2_with fail
  obtain ⟨W0, hW0⟩ : ∃ W0, W0 = (((w.alloc (.cells #[.int .i64 0, .bool false, .string ⟨#[]⟩, .bool false, .slice none 0 0, .slice none 0 0, .bool false, .slice none 0 0, .slice none 0 0] 26)).alloc (.cells #[.pointer (some ⟨g, 0, none⟩)] 94)).alloc (.cells #[.int .i64 3, .bool false, .string ⟨#[]⟩, .bool false, .slice none 0 0, .slice none 0 0, .bool false, .slice none 0 0, .slice none 0 0] 26)).alloc (.cells #[.pointer (some ⟨g, 0, none⟩)] 94) := ⟨_, rfl⟩
  have hn0 : W0.heap[w.heap.size]? = some (.cells #[.int .i64 0, .bool false, .string ⟨#[]⟩, .bool false, .slice none 0 0, .slice none 0 0, .bool false, .slice none 0 0, .slice none 0 0] 26 (0, 0)) := by rw [hW0]; exact blk_alloc (blk_alloc (blk_alloc (heap_alloc_new _ _) _) _) _
  have hn1 : W0.heap[w.heap.size + 2]? = some (.cells #[.int .i64 3, .bool false, .string ⟨#[]⟩, .bool false, .slice none 0 0, .slice none 0 0, .bool false, .slice none 0 0, .slice none 0 0] 26 (0, 0)) := by rw [hW0]; exact blk_alloc (by simpa using heap_alloc_new ((w.alloc (.cells #[.int .i64 0, .bool false, .string ⟨#[]⟩, .bool false, .slice none 0 0, .slice none 0 0, .bool false, .slice none 0 0, .slice none 0 0] 26)).alloc (.cells #[.pointer (some ⟨g, 0, none⟩)] 94)) (.cells #[.int .i64 3, .bool false, .string ⟨#[]⟩, .bool false, .slice none 0 0, .slice none 0 0, .bool false, .slice none 0 0, .slice none 0 0] 26)) _
  have hB0 : Below w.heap.size w W0 := by rw [hW0]; exact below_alloc (below_alloc (below_alloc (below_alloc (Below.refl _ _) _) _) _) _
  rw [← hW0]
  clear hW0
  refine (parts94 g v S xs W0 (blk_below HBK.out hB0) (Wd_below HV.out hB0) HXL.out).mono ?_
  rintro e w1 ⟨u, u2, rfl, hu, hb⟩
  obtain ⟨A, c, rfl, _⟩ := id hu
  have HU := Aside0.mk hu
  have HB := Aside0.mk (below_step hB0 hb)
  have HS := Aside0.mk hB0.size
  have hn2 := blk_below hn0 hb
  have hn3 := blk_below hn1 hb
  have HN2 := Aside0.mk hn2
  have HN3 := Aside0.mk hn3
  have HL := Aside0.mk (blk_lt hn1)
  clear hu hb hn0 hn1 hB0
  have ac0 : w1.cell? ⟨w.heap.size, 0, none⟩ = some (.int .i64 0) := blk_cell HN2.out 0
  have af0 : w1.frozen? ⟨w.heap.size, 0, none⟩ = false := blk_frozen HN2.out 0
  have ac1 : w1.cell? ⟨w.heap.size, 1, none⟩ = some (.bool false) := blk_cell HN2.out 1
  have af1 : w1.frozen? ⟨w.heap.size, 1, none⟩ = false := blk_frozen HN2.out 1
  have ac2 : w1.cell? ⟨w.heap.size, 2, none⟩ = some (.string ⟨#[]⟩) := blk_cell HN2.out 2
  have af2 : w1.frozen? ⟨w.heap.size, 2, none⟩ = false := blk_frozen HN2.out 2
  have ac3 : w1.cell? ⟨w.heap.size, 3, none⟩ = some (.bool false) := blk_cell HN2.out 3
  have af3 : w1.frozen? ⟨w.heap.size, 3, none⟩ = false := blk_frozen HN2.out 3
  have ac4 : w1.cell? ⟨w.heap.size, 4, none⟩ = some (.slice none 0 0) := blk_cell HN2.out 4
  have af4 : w1.frozen? ⟨w.heap.size, 4, none⟩ = false := blk_frozen HN2.out 4
  have ac5 : w1.cell? ⟨w.heap.size, 5, none⟩ = some (.slice none 0 0) := blk_cell HN2.out 5
  have af5 : w1.frozen? ⟨w.heap.size, 5, none⟩ = false := blk_frozen HN2.out 5
  have ac6 : w1.cell? ⟨w.heap.size, 6, none⟩ = some (.bool false) := blk_cell HN2.out 6
  have af6 : w1.frozen? ⟨w.heap.size, 6, none⟩ = false := blk_frozen HN2.out 6
  have ac7 : w1.cell? ⟨w.heap.size, 7, none⟩ = some (.slice none 0 0) := blk_cell HN2.out 7
  have af7 : w1.frozen? ⟨w.heap.size, 7, none⟩ = false := blk_frozen HN2.out 7
  have ac8 : w1.cell? ⟨w.heap.size, 8, none⟩ = some (.slice none 0 0) := blk_cell HN2.out 8
  have af8 : w1.frozen? ⟨w.heap.size, 8, none⟩ = false := blk_frozen HN2.out 8
  have bc0 : w1.cell? ⟨w.heap.size + 2, 0, none⟩ = some (.int .i64 3) := blk_cell HN3.out 0
  have bf0 : w1.frozen? ⟨w.heap.size + 2, 0, none⟩ = false := blk_frozen HN3.out 0
  have bc1 : w1.cell? ⟨w.heap.size + 2, 1, none⟩ = some (.bool false) := blk_cell HN3.out 1
  have bf1 : w1.frozen? ⟨w.heap.size + 2, 1, none⟩ = false := blk_frozen HN3.out 1
  have bc2 : w1.cell? ⟨w.heap.size + 2, 2, none⟩ = some (.string ⟨#[]⟩) := blk_cell HN3.out 2
  have bf2 : w1.frozen? ⟨w.heap.size + 2, 2, none⟩ = false := blk_frozen HN3.out 2
  have bc3 : w1.cell? ⟨w.heap.size + 2, 3, none⟩ = some (.bool false) := blk_cell HN3.out 3
  have bf3 : w1.frozen? ⟨w.heap.size + 2, 3, none⟩ = false := blk_frozen HN3.out 3
  have bc4 : w1.cell? ⟨w.heap.size + 2, 4, none⟩ = some (.slice none 0 0) := blk_cell HN3.out 4
  have bf4 : w1.frozen? ⟨w.heap.size + 2, 4, none⟩ = false := blk_frozen HN3.out 4
  have bc5 : w1.cell? ⟨w.heap.size + 2, 5, none⟩ = some (.slice none 0 0) := blk_cell HN3.out 5
  have bf5 : w1.frozen? ⟨w.heap.size + 2, 5, none⟩ = false := blk_frozen HN3.out 5
  have bc6 : w1.cell? ⟨w.heap.size + 2, 6, none⟩ = some (.bool false) := blk_cell HN3.out 6
  have bf6 : w1.frozen? ⟨w.heap.size + 2, 6, none⟩ = false := blk_frozen HN3.out 6
  have bc7 : w1.cell? ⟨w.heap.size + 2, 7, none⟩ = some (.slice none 0 0) := blk_cell HN3.out 7
  have bf7 : w1.frozen? ⟨w.heap.size + 2, 7, none⟩ = false := blk_frozen HN3.out 7
  have bc8 : w1.cell? ⟨w.heap.size + 2, 8, none⟩ = some (.slice none 0 0) := blk_cell HN3.out 8
  have bf8 : w1.frozen? ⟨w.heap.size + 2, 8, none⟩ = false := blk_frozen HN3.out 8
  clear hn2 hn3
  go_wp2_with fail
  refine bodyPost_ret (results_cell_row rfl _ _ w.heap.size 26 #[.int .i64 3, .bool false, .string ⟨#[]⟩, .bool false, .slice A xs.length c, .slice none 0 0, .bool false, .slice none 0 0, .slice none 0 0] (0, 0) _ rfl (blk_put (cs := #[.int .i64 3, .bool false, .string ⟨#[]⟩, .bool false, .slice A xs.length c, .slice none 0 0, .bool false, .slice none 0 0, .slice none 0 0]) (blk_put (cs := #[.int .i64 3, .bool false, .string ⟨#[]⟩, .bool false, .slice A xs.length c, .slice none 0 0, .bool false, .slice none 0 0, .slice none 0 0]) (blk_put (cs := #[.int .i64 3, .bool false, .string ⟨#[]⟩, .bool false, .slice A xs.length c, .slice none 0 0, .bool false, .slice none 0 0, .slice none 0 0]) (blk_put (cs := #[.int .i64 3, .bool false, .string ⟨#[]⟩, .bool false, .slice A xs.length c, .slice none 0 0, .bool false, .slice none 0 0, .slice none 0 0]) (blk_put (cs := #[.int .i64 3, .bool false, .string ⟨#[]⟩, .bool false, .slice none 0 0, .slice none 0 0, .bool false, .slice none 0 0, .slice none 0 0]) (blk_put (cs := #[.int .i64 3, .bool false, .string ⟨#[]⟩, .bool false, .slice none 0 0, .slice none 0 0, .bool false, .slice none 0 0, .slice none 0 0]) (blk_put (cs := #[.int .i64 3, .bool false, .string ⟨#[]⟩, .bool false, .slice none 0 0, .slice none 0 0, .bool false, .slice none 0 0, .slice none 0 0]) (blk_put (cs := #[.int .i64 3, .bool false, .string ⟨#[]⟩, .bool false, .slice none 0 0, .slice none 0 0, .bool false, .slice none 0 0, .slice none 0 0]) (blk_put (cs := #[.int .i64 0, .bool false, .string ⟨#[]⟩, .bool false, .slice none 0 0, .slice none 0 0, .bool false, .slice none 0 0, .slice none 0 0]) (blk_far (p := ⟨w.heap.size + 2, 4, none⟩) (blk_far (p := ⟨w.heap.size + 2, 3, none⟩) HN2.out (by simp) _) (by simp) _) 0 _ rfl) 1 _ rfl) 2 _ rfl) 3 _ rfl) 4 _ rfl) 5 _ rfl) 6 _ rfl) 7 _ rfl) 8 _ rfl) Tryz.underlying26 rfl (by kernel_rfl)) rfl ?_
  have hlt := HL.out
  refine ⟨.slice A xs.length c, rfl, ?_, ?_⟩
  · refine Wd_mono (S := fun k => W0.heap.size ≤ k) ?_ (fun k hk => Nat.le_trans HS.out hk)
    repeat refine Wd_far ?_ (by simp; omega) _
    exact HU.out
  · repeat refine Below.setCell ?_ (by first | (simp; done) | (simp; omega)) _
    exact HB.out

/-- The package's value of a number that is not below 0: an int64, or a great integer. -/
def LitI (V : Nat) (X : Value) (w : World) : Prop :=
  V < 9223372036854775808 ∧ X = .iface 88 (.int .i64 V) ∨ 9223372036854775808 ≤ V ∧ ∃ g, X = .iface 94 (.agg #[.pointer (some ⟨g, 0, none⟩)]) ∧ Ib w 0 g V

theorem Nt_lower {w : World} {base : Nat} {v : Value} {xs : List Int} (h : Nt w base v xs) : Nt w 0 v xs := by
  refine ⟨h.1, ?_⟩
  rcases h.2 with h | ⟨g', cap, cur, e1, e2, rest⟩
  · exact .inl h
  · exact .inr ⟨g', cap, cur, e1, Nat.zero_le _, rest⟩

/-- What MakeFromLiteral answers. -/
def MfOk (V : Nat) (w : World) (e : Ending) (w' : World) : Prop := ∃ X, e = .returned X ∧ Below w.heap.size w w' ∧ LitI V X w'

set_option maxHeartbeats 2000000 in
set_option maxRecDepth 100000 in
theorem mfl_int (b V : Nat) (s : ByteArray) (pa : Addr) (w : World) (hs0 : 0 < s.size) (hs : s.size ≤ 100000) (h45 : bt s 0 ≠ 45) (h43 : bt s 0 ≠ 43) (hS : 9223372036854775808 ≤ V → ScanAt b V s pa) (hev : Eof w pa)
    (hP : Calls Tryz.prog 43 #[.string s, .int .i64 0, .int .i64 64] w (PsOk V w)) :
    Calls Tryz.prog 27 #[.string s, .int .i64 5, .int .u64 0] w (MfOk V w) := by
  have H := Aside0.mk hP
  have HS := Aside0.mk hS
  have HE := Aside0.mk hev
  have H45 := Aside0.mk h45
  have H43 := Aside0.mk h43
  clear hP hS hev h45 h43
  go_enter Tryz.func27, Tryz.ntmps27
  go_wp2_with fail
  refine H.out.mono ?_
  rintro e w1 ⟨⟨hV, rfl⟩ | ⟨hV, te, ve, rfl⟩, hb⟩
  · have HB := Aside0.mk hb
    have HV := Aside0.mk hV
    clear hV hb
    go_wp2_with fail
    go_ret
    exact ⟨_, rfl, HB.out, .inl ⟨HV.out, rfl⟩⟩
  · have HB := Aside0.mk hb
    have HV := Aside0.mk hV
    have hl1 := World.block_lt_of_cell? _ _ HE.out
    have he1 : Eof w1 pa := Eof.below HE.out hb hl1
    have hw1 := hb.size
    have hb0 := below_alloc (Below.refl w1.heap.size w1) (.cells #[.bool false, .slice none 0 0] 116)
    have HG := Aside0.mk (setString b V w1.heap.size s pa (w1.alloc (.cells #[.bool false, .slice none 0 0] 116)) (by omega) (HS.out hV) hs0 hs H45.out H43.out (by simp at hl1; omega) (heap_alloc_new w1 _) (Eof.below he1 hb0 (by simp at hl1; omega)))
    have hN := newInt_any w1
    obtain ⟨W0, hW0⟩ : ∃ W0, W0 = w1.alloc (.cells #[.bool false, .slice none 0 0] 116) := ⟨_, rfl⟩
    obtain ⟨g, hg⟩ : ∃ g, g = w1.heap.size := ⟨_, rfl⟩
    rw [← hW0] at HG hb0 hN
    rw [← hg] at HG hN
    have HN := Aside0.mk hN
    have HB0 := Aside0.mk hb0
    have HGG := Aside0.mk hg
    clear hN hb0 hg hW0 hb hV hl1 he1 hw1
    go_wp2_with fail
    refine HN.out.mono ?_
    rintro e w' ⟨rfl, rfl⟩
    go_wp2_with fail
    refine HG.out.mono ?_
    rintro e w2 ⟨rfl, hI, ho⟩
    have HI := Aside0.mk hI
    have HO := Aside0.mk ho
    clear hI ho
    go_wp2_with fail
    go_ret
    obtain ⟨v, h1, h2⟩ := HI.out
    refine ⟨_, rfl, ?_, .inr ⟨HV.out, g, rfl, v, h1, Nt_lower h2⟩⟩
    refine (below_step HB.out HB0.out).grown HO.out ?_ (fun k hk => ?_)
    · exact Nat.le_trans HB.out.size HB0.out.size
    · cases hk
      rw [HGG.out]
      exact HB.out.size

set_option maxHeartbeats 2000000 in
set_option maxRecDepth 100000 in
/-- Literal, out of what MakeFromLiteral and told come to. -/
theorem literal_of2 (s : ByteArray) (tok : Nat) (ht : tok < 5) (w : World) (R1 : Value → World → Prop) (k : Int) (neg : Bool) (Q : World → Value → Value → Prop)
    (h27 : ∀ W : World, Below w.heap.size w W → w.heap.size + 2 ≤ W.heap.size → Calls Tryz.prog 27 #[.string s, .int .i64 (5 + tok), .int .u64 0] W fun e w' => ∃ X, e = .returned X ∧ Below W.heap.size W w' ∧ R1 X w')
    (h26 : ∀ (X : Value) (W : World), w.heap.size + 2 ≤ W.heap.size → R1 X W → Calls Tryz.prog 26 #[X] W fun e w' => ∃ A n c A2 n2 c2, e = .returned (numVal k neg (.slice A n c) (.slice A2 n2 c2)) ∧ Q w' (.slice A n c) (.slice A2 n2 c2) ∧ Below W.heap.size W w')
    (hQ : ∀ (W : World) (i : Nat) (u v v2 : Value), Q W v v2 → Q (W.setCell ⟨w.heap.size, i, none⟩ u) v v2) :
    Calls Tryz.prog 11 #[.string s, .int .i64 tok] w fun e w' => ∃ A n c A2 n2 c2, e = .returned (numVal k neg (.slice A n c) (.slice A2 n2 c2)) ∧ Q w' (.slice A n c) (.slice A2 n2 c2) ∧ Below w.heap.size w w' := by
  have H27 := Aside0.mk h27
  have H26 := Aside0.mk h26
  have HQ := Aside0.mk hQ
  clear h27 h26 hQ
  have ht' : (tok : Int) < 5 := by omega
  have hneg : decide ((tok : Int) < 0) = false := by simp
  have cs : tok = 0 ∨ tok = 1 ∨ tok = 2 ∨ tok = 3 ∨ tok = 4 := by omega
  rcases cs with rfl | rfl | rfl | rfl | rfl
  all_goals
    go_enter Tryz.func11, Tryz.ntmps11
    go_wp2_with fail
    obtain ⟨W0, hW0⟩ : ∃ W0, W0 = (w.alloc (.cells #[.int .i64 0, .bool false, .string ⟨#[]⟩, .bool false, .slice none 0 0, .slice none 0 0, .bool false, .slice none 0 0, .slice none 0 0] 26)).alloc (.cells #[.int .i64 5, .int .i64 6, .int .i64 7, .int .i64 8, .int .i64 9] 63) := ⟨_, rfl⟩
    rw [← hW0]
    have hn0 : W0.heap[w.heap.size]? = some (.cells #[.int .i64 0, .bool false, .string ⟨#[]⟩, .bool false, .slice none 0 0, .slice none 0 0, .bool false, .slice none 0 0, .slice none 0 0] 26 (0, 0)) := by rw [hW0]; exact blk_alloc (heap_alloc_new _ _) _
    have hB0 : Below w.heap.size w W0 := by rw [hW0]; exact below_alloc (below_alloc (Below.refl _ _) _) _
    have hz0 : w.heap.size + 2 ≤ W0.heap.size := by rw [hW0]; simp
    clear hW0
    refine (H27.out W0 hB0 hz0).mono ?_
    rintro e w1 ⟨X, rfl, hb1, hr1⟩
    have hz1 : w.heap.size + 2 ≤ w1.heap.size := Nat.le_trans hz0 hb1.size
    have HN1 := Aside0.mk (blk_below hn0 hb1)
    have HB1 := Aside0.mk (below_step hB0 hb1)
    have HR1 := Aside0.mk hr1
    have HZ1 := Aside0.mk hz1
    clear hn0 hB0 hz0 hb1 hr1 hz1
    go_wp2_with fail
    refine (H26.out X w1 HZ1.out HR1.out).mono ?_
    rintro e w2 ⟨A, n, c, A2, n2, c2, rfl, hq, hb2⟩
    unfold numVal
    have HN2 := Aside0.mk (blk_below HN1.out hb2)
    have HB2 := Aside0.mk (below_step HB1.out hb2)
    have HQ2 := Aside0.mk hq
    clear hq hb2
    have ac0 : w2.cell? ⟨w.heap.size, 0, none⟩ = some (.int .i64 0) := blk_cell HN2.out 0
    have af0 : w2.frozen? ⟨w.heap.size, 0, none⟩ = false := blk_frozen HN2.out 0
    have ac1 : w2.cell? ⟨w.heap.size, 1, none⟩ = some (.bool false) := blk_cell HN2.out 1
    have af1 : w2.frozen? ⟨w.heap.size, 1, none⟩ = false := blk_frozen HN2.out 1
    have ac2 : w2.cell? ⟨w.heap.size, 2, none⟩ = some (.string ⟨#[]⟩) := blk_cell HN2.out 2
    have af2 : w2.frozen? ⟨w.heap.size, 2, none⟩ = false := blk_frozen HN2.out 2
    have ac3 : w2.cell? ⟨w.heap.size, 3, none⟩ = some (.bool false) := blk_cell HN2.out 3
    have af3 : w2.frozen? ⟨w.heap.size, 3, none⟩ = false := blk_frozen HN2.out 3
    have ac4 : w2.cell? ⟨w.heap.size, 4, none⟩ = some (.slice none 0 0) := blk_cell HN2.out 4
    have af4 : w2.frozen? ⟨w.heap.size, 4, none⟩ = false := blk_frozen HN2.out 4
    have ac5 : w2.cell? ⟨w.heap.size, 5, none⟩ = some (.slice none 0 0) := blk_cell HN2.out 5
    have af5 : w2.frozen? ⟨w.heap.size, 5, none⟩ = false := blk_frozen HN2.out 5
    have ac6 : w2.cell? ⟨w.heap.size, 6, none⟩ = some (.bool false) := blk_cell HN2.out 6
    have af6 : w2.frozen? ⟨w.heap.size, 6, none⟩ = false := blk_frozen HN2.out 6
    have ac7 : w2.cell? ⟨w.heap.size, 7, none⟩ = some (.slice none 0 0) := blk_cell HN2.out 7
    have af7 : w2.frozen? ⟨w.heap.size, 7, none⟩ = false := blk_frozen HN2.out 7
    have ac8 : w2.cell? ⟨w.heap.size, 8, none⟩ = some (.slice none 0 0) := blk_cell HN2.out 8
    have af8 : w2.frozen? ⟨w.heap.size, 8, none⟩ = false := blk_frozen HN2.out 8
    go_wp2_with fail
    refine bodyPost_ret (results_cell_row rfl _ _ w.heap.size 26 #[.int .i64 k, .bool false, .string ⟨#[]⟩, .bool neg, .slice A n c, .slice A2 n2 c2, .bool false, .slice none 0 0, .slice none 0 0] (0, 0) _ rfl (blk_put (cs := #[.int .i64 k, .bool false, .string ⟨#[]⟩, .bool neg, .slice A n c, .slice A2 n2 c2, .bool false, .slice none 0 0, .slice none 0 0]) (blk_put (cs := #[.int .i64 k, .bool false, .string ⟨#[]⟩, .bool neg, .slice A n c, .slice A2 n2 c2, .bool false, .slice none 0 0, .slice none 0 0]) (blk_put (cs := #[.int .i64 k, .bool false, .string ⟨#[]⟩, .bool neg, .slice A n c, .slice A2 n2 c2, .bool false, .slice none 0 0, .slice none 0 0]) (blk_put (cs := #[.int .i64 k, .bool false, .string ⟨#[]⟩, .bool neg, .slice A n c, .slice none 0 0, .bool false, .slice none 0 0, .slice none 0 0]) (blk_put (cs := #[.int .i64 k, .bool false, .string ⟨#[]⟩, .bool neg, .slice none 0 0, .slice none 0 0, .bool false, .slice none 0 0, .slice none 0 0]) (blk_put (cs := #[.int .i64 k, .bool false, .string ⟨#[]⟩, .bool false, .slice none 0 0, .slice none 0 0, .bool false, .slice none 0 0, .slice none 0 0]) (blk_put (cs := #[.int .i64 k, .bool false, .string ⟨#[]⟩, .bool false, .slice none 0 0, .slice none 0 0, .bool false, .slice none 0 0, .slice none 0 0]) (blk_put (cs := #[.int .i64 k, .bool false, .string ⟨#[]⟩, .bool false, .slice none 0 0, .slice none 0 0, .bool false, .slice none 0 0, .slice none 0 0]) (blk_put (cs := #[.int .i64 0, .bool false, .string ⟨#[]⟩, .bool false, .slice none 0 0, .slice none 0 0, .bool false, .slice none 0 0, .slice none 0 0]) HN2.out 0 _ rfl) 1 _ rfl) 2 _ rfl) 3 _ rfl) 4 _ rfl) 5 _ rfl) 6 _ rfl) 7 _ rfl) 8 _ rfl) Tryz.underlying26 rfl (by kernel_rfl)) rfl ?_
    refine ⟨A, n, c, A2, n2, c2, rfl, ?_, ?_⟩
    · repeat refine HQ.out _ _ _ _ _ ?_
      exact HQ2.out
    · repeat refine Below.setCell ?_ (by simp) _
      exact HB2.out
end Go.Proofs.YtgpoplfgngiilaaGreatDoor

namespace Go.Proofs.YtgpoplfgngiilaaGreatDoor
open Go.RowKit Go.Proofs.YtgpoplfgngiilaaGreatDoorW.PrintWords PAll Pl

theorem wordsOf1_eq {v : Nat} (h : v < 18446744073709551616) : wordsOf1 v = figs 18446744073709551616 v := by
  unfold wordsOf1
  split
  · have : v = 0 := by omega
    subst this
    rw [figs_zero]
  · rw [figs_one (by omega) (by omega) h]

/-- What Literal answers: a Value of Kind Int with these words. -/
def LwOk (V : Nat) (w : World) (e : Ending) (w' : World) : Prop :=
  ∃ A c, e = .returned (numVal 3 false (.slice A (figs 18446744073709551616 V).length c) (.slice none 0 0)) ∧ (figs 18446744073709551616 V).length ≤ c ∧ Kd.C (Kd.int .u64) w' A (figs 18446744073709551616 V).length (figs 18446744073709551616 V) ∧ Below w.heap.size w w'

theorem lit_int {b V : Nat} {s : ByteArray} (hF : FormOk b V s) (hV : (figs 18446744073709551616 V).length < 17592186044416) (pa : Addr) (ev : Value) (w : World) (hev : Eof w pa) (h2 : w.cell? ⟨2, 0, none⟩ = some ev) (hev2 : ev = .nilIface ∨ ∃ te pe, ev = .iface te pe) :
    Calls Tryz.prog 11 #[.string s, .int .i64 0] w (LwOk V w) := by
  have h := literal_of2 s 0 (by decide) w (LitI V) 3 false
    (fun W x y => Wd (fun k => w.heap.size + 2 ≤ k) W x (figs 18446744073709551616 V) ∧ y = .slice none 0 0)
    (fun W hb hl => mfl_int b V s pa W hF.pos hF.size hF.h45 hF.h43 (fun hv => hF.sc hv pa) (Eof.below hev hb (World.block_lt_of_cell? _ _ hev)) (hF.ps W ev (pw_cell_below hb h2) hev2))
    (fun X W hl hR => by
      rcases hR with ⟨hv, rfl⟩ | ⟨hv, g, rfl, v, h1, h2⟩
      · refine (told64 V W (by omega) (by omega)).mono ?_
        rintro e w' ⟨u, rfl, h1, h2⟩
        obtain ⟨A, c, rfl, hc, hC, hS⟩ := h1
        rw [wordsOf1_eq (by omega)] at *
        exact ⟨A, _, c, none, 0, 0, rfl, ⟨⟨A, c, rfl, hc, hC, fun ad ha => Nat.le_trans hl (hS ad ha)⟩, rfl⟩, h2⟩
      · refine (told94 g v _ _ W h1 (Nt_Wd h2) hV).mono ?_
        rintro e w' ⟨u, rfl, h1, h2⟩
        obtain ⟨A, c, rfl, hc, hC, hS⟩ := h1
        exact ⟨A, _, c, none, 0, 0, rfl, ⟨⟨A, c, rfl, hc, hC, fun ad ha => Nat.le_trans hl (hS ad ha)⟩, rfl⟩, h2⟩)
    (fun W i u x y hq => ⟨Wd_far (p := ⟨w.heap.size, i, none⟩) hq.1 (by simp) u, hq.2⟩)
  refine h.mono ?_
  rintro e w' ⟨A, n, c, A2, n2, c2, rfl, ⟨⟨A', c', he, hc, hC, hS⟩, he2⟩, hb⟩
  cases he
  cases he2
  exact ⟨_, _, rfl, hc, hC, hb⟩

/-- IsInt of what Literal answered, with the number itself. -/
theorem isInt_big (V : Nat) (hl : (figs 18446744073709551616 V).length ≤ 10) (A : Option Addr) (c : Nat) (B1 : Option Addr) (d1 : Nat) (B2 : Option Addr) (d2 : Nat) (w : World)
    (hc : (figs 18446744073709551616 V).length ≤ c) (hC : Kd.C (Kd.int .u64) w A (figs 18446744073709551616 V).length (figs 18446744073709551616 V))
    (hB1 : Kd.C (Kd.int .i64) w B1 (figs 65536 V).length (figs 65536 V)) (hd1 : (figs 65536 V).length ≤ d1) (hB2 : Kd.C (Kd.int .i64) w B2 1 [1]) (hd2 : 1 ≤ d2) (hq : (figs 65536 V).length ≤ 40) :
    Calls Tryz.prog 10 #[numVal 3 false (.slice A (figs 18446744073709551616 V).length c) (.slice none 0 0), .agg #[.bool false, .slice B1 (figs 65536 V).length d1, .slice B2 1 d2]] w fun e w' => e = .returned (.bool true) ∧ Below w.heap.size w w' := by
  have ho := of_f (figs 18446744073709551616 V) (figs_Dg (by decide) V) (by omega)
  rw [figs_val (by decide), Int.toNat_natCast] at ho
  have hh := has_f V (by omega) (by omega)
  obtain ⟨K, h1⟩ := ho
  obtain ⟨L, h2⟩ := hh
  have e1 : figs 65536 1 = [1] := figs_one (by omega) (by omega) (by omega)
  have hs := same_f false false V 1 V 1 (by omega) (by rw [e1]; decide) (by omega) (by rw [e1]; decide)
  rw [e1] at hs
  obtain ⟨k2, h3⟩ := hs.rounds
  have h3' : spec_same.f k2 false (figs 65536 V) [1] false (figs 65536 V) [1] = some true := by rw [h3]; simp
  exact isInt_any A c _ false B1 d1 (figs 65536 V) B2 d2 [1] (max K L) k2 (figs 65536 V) true w hC hc hB1 hd1 hB2 hd2 (h1 _ (Nat.le_max_left _ _)) (h2 _ (Nat.le_max_right _ _)) h3'
end Go.Proofs.YtgpoplfgngiilaaGreatDoor
