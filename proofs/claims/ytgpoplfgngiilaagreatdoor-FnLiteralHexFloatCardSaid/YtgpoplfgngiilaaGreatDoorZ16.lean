/- Float.scan over a hexadecimal text with an exponent. Float's Parse and SetString over a text that scan reads to its end. The words of an Int, as plain data: Bits, plain, number of package impl. An Int of a small number: setWord, setUint64, SetInt64 at an Int that holds nothing yet. Type switches at the dynamic types that occur: closed facts. What package impl tells of an integer of 64 bits not below 0. told of package impl at an integer of 64 bits not below 0. told over a fraction: Kind, Val, Num, Denom, parts. -/
import Derived.Test.YtgpoplfgngiilaaGreatDoorZ03
import Derived.Test.YtgpoplfgngiilaaGreatDoorZ06
import Derived.Test.YtgpoplfgngiilaaGreatDoorZ07
import Derived.Test.YtgpoplfgngiilaaGreatDoorZ14
import Derived.Test.YtgpoplfgngiilaaGreatDoorZ15
set_option linter.unusedVariables false
set_option linter.unusedSimpArgs false
namespace Go.Proofs.YtgpoplfgngiilaaGreatDoor
open Go.RowKit Go.Proofs.YtgpoplfgngiilaaGreatDoorW.PrintWords PAll Pl Dv

theorem Fk.only {w w1 : World} {f g : Nat} {p a fo : Int} {n : Bool} {m : Value} {e : Int} (h : Fk w f p a fo n m e) (ho : w.grownBy w1 (some g)) (hne : f ≠ g) : Fk w1 f p a fo n m e :=
  (ho.block f (blk_lt h) (by simpa using hne)).trans h

set_option maxHeartbeats 8000000 in
set_option maxRecDepth 100000 in
theorem flScan_zero (x : Int) (q n f g : Nat) (s : ByteArray) (pa : Addr) (w : World) (hF : Fk w f 512 0 0 false (.slice none 0 0) 0) (hfl : f < g) (hf1 : 1 < f) (hg : 1 < g) (hgw : g < w.heap.size) (hs0 : 0 < s.size) (hs : s.size ≤ 100000) (h45 : bt s 0 ≠ 45) (h43 : bt s 0 ≠ 43)
    (hr : RdAt w g s 0 (-1)) (hev : Eof w pa)
    (hscan : ∀ W, RdAt W g s 0 (-1) → Eof W pa → g < W.heap.size → Calls Tryz.prog 109 #[.slice none 0 0, .iface 133 (.pointer (some ⟨g, 0, none⟩)), .int .i64 0, .bool true] W (SqOk q 0 n g s W))
    (hexp : ∀ W, RdAt W g s (3 + n : Nat) (-1) → Eof W pa → g < W.heap.size → Calls Tryz.prog 112 #[.iface 133 (.pointer (some ⟨g, 0, none⟩)), .bool true, .bool true] W (XeOk x g s W)) :
    Calls Tryz.prog 147 #[.pointer (some ⟨f, 0, none⟩), .iface 133 (.pointer (some ⟨g, 0, none⟩)), .int .i64 0] w fun e w' => e = .returned (.tuple #[.pointer (some ⟨f, 0, none⟩), .int .i64 16, .nilIface]) ∧ (∃ m, Fk w' f 512 0 0 false m 0) ∧ RdAt w' g s s.size (-1) ∧ Below f w w' := by
  have hfg : f ≠ g := Nat.ne_of_lt hfl
  have HFL := Aside0.mk hfl
  clear hfl
  have c0 : w.cell? ⟨f, 0, none⟩ = some (.int .u32 512) := blk_cell hF 0
  have c3 : w.cell? ⟨f, 3, none⟩ = some (.int .u8 0) := blk_cell hF 3
  have f3 : w.frozen? ⟨f, 3, none⟩ = false := blk_frozen hF _
  have hF1 : Fk (w.setCell ⟨f, 3, none⟩ (.int .u8 0)) f 512 0 0 false (.slice none 0 0) 0 := blk_put hF 3 (.int .u8 0) rfl
  have hr1 : RdAt (w.setCell ⟨f, 3, none⟩ (.int .u8 0)) g s 0 (-1) := blk_far hr (fun h => hfg h.symm) _
  have HSG := Aside0.mk (scanSign_none g s (-1) (w.setCell ⟨f, 3, none⟩ (.int .u8 0)) hs0 hs h45 h43 hr1)
  have HF1 := Aside0.mk hF1
  have HE1 := Aside0.mk (show Eof (w.setCell ⟨f, 3, none⟩ (.int .u8 0)) pa from (World.cell?_of_block (Below.heap_setCell w ⟨f, 3, none⟩ _ 1 (show (1 : Nat) ≠ f by omega))).trans hev)
  have HSC := Lib.hid hscan
  have HEX := Lib.hid hexp
  have HFG := Aside0.mk (And.intro hfg (And.intro hf1 (And.intro hg hgw)))
  have HB1 := Aside0.mk ((Below.refl f w).setCell (p := ⟨f, 3, none⟩) (Nat.le_refl _) (.int .u8 0))
  clear hF hF1 hr hr1 hev hscan hexp hs0 hs h45 h43 hfg hf1 hg hgw
  go_enter Tryz.func147, Tryz.ntmps147
  go_wp2_with fail
  refine HSG.out.mono ?_
  rintro e w2 ⟨rfl, hr2, ho2⟩
  have hF2 := HF1.out.only ho2 HFG.out.1
  have h24 : w2.cell? ⟨f, 4, none⟩ = some (.bool false) := blk_cell hF2 4
  have f24 : w2.frozen? ⟨f, 4, none⟩ = false := blk_frozen hF2 _
  have hF3 : Fk (w2.setCell ⟨f, 4, none⟩ (.bool false)) f 512 0 0 false (.slice none 0 0) 0 := blk_put hF2 4 (.bool false) rfl
  have h35 : (w2.setCell ⟨f, 4, none⟩ (.bool false)).cell? ⟨f, 5, none⟩ = some (.slice none 0 0) := blk_cell hF3 5
  have hr3 : RdAt (w2.setCell ⟨f, 4, none⟩ (.bool false)) g s 0 (-1) := blk_far hr2 (fun h => HFG.out.1 h.symm) _
  have hE3 : Eof (w2.setCell ⟨f, 4, none⟩ (.bool false)) pa := (World.cell?_of_block (Below.heap_setCell w2 ⟨f, 4, none⟩ _ 1 (show (1 : Nat) ≠ f by have := HFG.out; omega))).trans (HE1.out.only ho2 HFG.out.2.2.1)
  have hz3 : g < (w2.setCell ⟨f, 4, none⟩ (.bool false)).heap.size := blk_lt hr3
  have HS3 := Aside0.mk (HSC.out _ hr3 hE3 hz3)
  have HF3 := Aside0.mk hF3
  have HE3 := Aside0.mk hE3
  have HO2 := Aside0.mk ho2
  clear hF2 hF3 hr3 hE3 hz3 hr2 ho2 c0 c3 f3 HSG
  go_wp2_with fail
  refine HS3.out.mono ?_
  rintro e w4 ⟨v, rfl, hn4, hr4, ho4⟩
  rw [figs_zero] at hn4
  obtain ⟨A4, c4, rfl⟩ := Nt_slice hn4
  have hF4 := HF3.out.only ho4 HFG.out.1
  have h45c : w4.cell? ⟨f, 5, none⟩ = some (.slice none 0 0) := blk_cell hF4 5
  have f45 : w4.frozen? ⟨f, 5, none⟩ = false := blk_frozen hF4 _
  have hF5 : Fk (w4.setCell ⟨f, 5, none⟩ (.slice A4 0 c4)) f 512 0 0 false (.slice A4 0 c4) 0 := blk_put hF4 5 (.slice A4 0 c4) rfl
  have hr5 : RdAt (w4.setCell ⟨f, 5, none⟩ (.slice A4 0 c4)) g s (3 + n : Nat) (-1) := blk_far hr4 (fun h => HFG.out.1 h.symm) _
  have hE5 : Eof (w4.setCell ⟨f, 5, none⟩ (.slice A4 0 c4)) pa := (World.cell?_of_block (Below.heap_setCell w4 ⟨f, 5, none⟩ _ 1 (show (1 : Nat) ≠ f by have := HFG.out; omega))).trans (HE3.out.only ho4 HFG.out.2.2.1)
  have HX5 := Aside0.mk (HEX.out _ hr5 hE5 (blk_lt hr5))
  have HF5 := Aside0.mk hF5
  have HO4 := Aside0.mk ho4
  clear hF4 hF5 hr5 hE5 hn4 hr4 ho4 h24 f24 h35 HS3
  go_wp2_with fail
  refine HX5.out.mono ?_
  rintro e w6 ⟨rfl, hr6, ho6⟩
  have hF6 := HF5.out.only ho6 HFG.out.1
  have c65 : w6.cell? ⟨f, 5, none⟩ = some (.slice A4 0 c4) := blk_cell hF6 5
  have c60 : w6.cell? ⟨f, 0, none⟩ = some (.int .u32 512) := blk_cell hF6 0
  have f60 : w6.frozen? ⟨f, 0, none⟩ = false := blk_frozen hF6 _
  have hF7 : Fk (w6.setCell ⟨f, 0, none⟩ (.int .u32 512)) f 512 0 0 false (.slice A4 0 c4) 0 := blk_put hF6 0 (.int .u32 512) rfl
  have c72 : (w6.setCell ⟨f, 0, none⟩ (.int .u32 512)).cell? ⟨f, 2, none⟩ = some (.int .i8 0) := blk_cell hF7 2
  have f72 : (w6.setCell ⟨f, 0, none⟩ (.int .u32 512)).frozen? ⟨f, 2, none⟩ = false := blk_frozen hF7 _
  have hF8 : Fk ((w6.setCell ⟨f, 0, none⟩ (.int .u32 512)).setCell ⟨f, 2, none⟩ (.int .i8 0)) f 512 0 0 false (.slice A4 0 c4) 0 := blk_put hF7 2 (.int .i8 0) rfl
  have c83 : ((w6.setCell ⟨f, 0, none⟩ (.int .u32 512)).setCell ⟨f, 2, none⟩ (.int .i8 0)).cell? ⟨f, 3, none⟩ = some (.int .u8 0) := blk_cell hF8 3
  have f83 : ((w6.setCell ⟨f, 0, none⟩ (.int .u32 512)).setCell ⟨f, 2, none⟩ (.int .i8 0)).frozen? ⟨f, 3, none⟩ = false := blk_frozen hF8 _
  have hF9 : Fk (((w6.setCell ⟨f, 0, none⟩ (.int .u32 512)).setCell ⟨f, 2, none⟩ (.int .i8 0)).setCell ⟨f, 3, none⟩ (.int .u8 0)) f 512 0 0 false (.slice A4 0 c4) 0 := blk_put hF8 3 (.int .u8 0) rfl
  have hr9 : RdAt (((w6.setCell ⟨f, 0, none⟩ (.int .u32 512)).setCell ⟨f, 2, none⟩ (.int .i8 0)).setCell ⟨f, 3, none⟩ (.int .u8 0)) g s s.size (-1) := blk_far (blk_far (blk_far hr6 (fun h => HFG.out.1 h.symm) _) (fun h => HFG.out.1 h.symm) _) (fun h => HFG.out.1 h.symm) _
  have H9 := Aside0.mk (And.intro hF9 hr9)
  have HO6 := Aside0.mk ho6
  clear hF6 hF7 hF8 hF9 hr9 hr6 ho6 h45c f45 HX5
  go_wp2_with fail
  refine bodyPost_ret (results_tmp3 rfl _ _ _) rfl ?_
  refine ⟨rfl, ⟨_, H9.out.1⟩, H9.out.2, ?_⟩
  have hk : ∀ k, some g = some k → f ≤ k := fun k hk => by have e := Option.some.inj hk; have := HFL.out; omega
  exact ((((((HB1.out.grown HO2.out (Nat.le_of_lt (blk_lt HF1.out)) hk).setCell (p := ⟨f, 4, none⟩) (Nat.le_refl _) (.bool false)).grown HO4.out (Nat.le_of_lt (blk_lt HF3.out)) hk).setCell (p := ⟨f, 5, none⟩) (Nat.le_refl _) (.slice A4 0 c4)).grown HO6.out (Nat.le_of_lt (blk_lt HF5.out)) hk).setCell (p := ⟨f, 0, none⟩) (Nat.le_refl _) _).setCell (p := ⟨f, 2, none⟩) (Nat.le_refl _) _ |>.setCell (p := ⟨f, 3, none⟩) (Nat.le_refl _) _
-- Float.scan of one word.
set_option maxHeartbeats 8000000 in
set_option maxRecDepth 100000 in
theorem flScan_one (x : Int) (V q n f g : Nat) (s : ByteArray) (pa : Addr) (w : World) (hF : Fk w f 512 0 0 false (.slice none 0 0) 0) (hV0 : 0 < V) (hV : V < 18446744073709551616) (hqn : q ≤ n) (hn : n ≤ 100) (hx0 : -1000 ≤ x) (hx1 : x ≤ 1000) (hfl : f < g) (hf1 : 1 < f) (hg : 1 < g) (hgw : g < w.heap.size) (hs0 : 0 < s.size) (hs : s.size ≤ 100000) (h45 : bt s 0 ≠ 45) (h43 : bt s 0 ≠ 43)
    (hr : RdAt w g s 0 (-1)) (hev : Eof w pa)
    (hscan : ∀ W, RdAt W g s 0 (-1) → Eof W pa → g < W.heap.size → Calls Tryz.prog 109 #[.slice none 0 0, .iface 133 (.pointer (some ⟨g, 0, none⟩)), .int .i64 0, .bool true] W (SqOk q V n g s W))
    (hexp : ∀ W, RdAt W g s (3 + n : Nat) (-1) → Eof W pa → g < W.heap.size → Calls Tryz.prog 112 #[.iface 133 (.pointer (some ⟨g, 0, none⟩)), .bool true, .bool true] W (XeOk x g s W)) :
    Calls Tryz.prog 147 #[.pointer (some ⟨f, 0, none⟩), .iface 133 (.pointer (some ⟨g, 0, none⟩)), .int .i64 0] w fun e w' => e = .returned (.tuple #[.pointer (some ⟨f, 0, none⟩), .int .i64 16, .nilIface]) ∧ (∃ m e, -4096 < e ∧ e < 4096 ∧ Fk w' f 512 0 1 false m e) ∧ RdAt w' g s s.size (-1) ∧ Below f w w' := by
  have hfg : f ≠ g := Nat.ne_of_lt hfl
  have HFL := Aside0.mk hfl
  have HVV := Aside0.mk (And.intro hV0 hV)
  clear hV0 hV
  clear hfl
  have c0 : w.cell? ⟨f, 0, none⟩ = some (.int .u32 512) := blk_cell hF 0
  have c3 : w.cell? ⟨f, 3, none⟩ = some (.int .u8 0) := blk_cell hF 3
  have f3 : w.frozen? ⟨f, 3, none⟩ = false := blk_frozen hF _
  have hF1 : Fk (w.setCell ⟨f, 3, none⟩ (.int .u8 0)) f 512 0 0 false (.slice none 0 0) 0 := blk_put hF 3 (.int .u8 0) rfl
  have hr1 : RdAt (w.setCell ⟨f, 3, none⟩ (.int .u8 0)) g s 0 (-1) := blk_far hr (fun h => hfg h.symm) _
  have HSG := Aside0.mk (scanSign_none g s (-1) (w.setCell ⟨f, 3, none⟩ (.int .u8 0)) hs0 hs h45 h43 hr1)
  have HF1 := Aside0.mk hF1
  have HE1 := Aside0.mk (show Eof (w.setCell ⟨f, 3, none⟩ (.int .u8 0)) pa from (World.cell?_of_block (Below.heap_setCell w ⟨f, 3, none⟩ _ 1 (show (1 : Nat) ≠ f by omega))).trans hev)
  have HSC := Lib.hid hscan
  have HEX := Lib.hid hexp
  have HFG := Aside0.mk (And.intro hfg (And.intro hf1 (And.intro hg hgw)))
  have HB1 := Aside0.mk ((Below.refl f w).setCell (p := ⟨f, 3, none⟩) (Nat.le_refl _) (.int .u8 0))
  clear hF hF1 hr hr1 hev hscan hexp hs0 hs h45 h43 hfg hf1 hg hgw
  go_enter Tryz.func147, Tryz.ntmps147
  go_wp2_with fail
  refine HSG.out.mono ?_
  rintro e w2 ⟨rfl, hr2, ho2⟩
  have hF2 := HF1.out.only ho2 HFG.out.1
  have h24 : w2.cell? ⟨f, 4, none⟩ = some (.bool false) := blk_cell hF2 4
  have f24 : w2.frozen? ⟨f, 4, none⟩ = false := blk_frozen hF2 _
  have hF3 : Fk (w2.setCell ⟨f, 4, none⟩ (.bool false)) f 512 0 0 false (.slice none 0 0) 0 := blk_put hF2 4 (.bool false) rfl
  have h35 : (w2.setCell ⟨f, 4, none⟩ (.bool false)).cell? ⟨f, 5, none⟩ = some (.slice none 0 0) := blk_cell hF3 5
  have hr3 : RdAt (w2.setCell ⟨f, 4, none⟩ (.bool false)) g s 0 (-1) := blk_far hr2 (fun h => HFG.out.1 h.symm) _
  have hE3 : Eof (w2.setCell ⟨f, 4, none⟩ (.bool false)) pa := (World.cell?_of_block (Below.heap_setCell w2 ⟨f, 4, none⟩ _ 1 (show (1 : Nat) ≠ f by have := HFG.out; omega))).trans (HE1.out.only ho2 HFG.out.2.2.1)
  have hz3 : g < (w2.setCell ⟨f, 4, none⟩ (.bool false)).heap.size := blk_lt hr3
  have HS3 := Aside0.mk (HSC.out _ hr3 hE3 hz3)
  have HG3 := Aside0.mk hz3
  have HF3 := Aside0.mk hF3
  have HE3 := Aside0.mk hE3
  have HO2 := Aside0.mk ho2
  clear hF2 hF3 hr3 hE3 hz3 hr2 ho2 c0 c3 f3 HSG
  go_wp2_with fail
  refine HS3.out.mono ?_
  rintro e w4 ⟨v, rfl, hn4, hr4, ho4⟩
  obtain ⟨hv, c4, cur, hve, hhv, hgv, hcl, -, -, hcc⟩ := Nt_form hn4 (figs_ne (B := 18446744073709551616) (by decide) HVV.out.1)
  have hl1 : (figs 18446744073709551616 V).length = 1 := by rw [figs_one (by decide) HVV.out.1 HVV.out.2]; rfl
  have hcv : cur[0]? = some (.int .u64 (V : Int)) := by
    have e := hcc 0 (by rw [hl1]; decide)
    rw [figs_one (by decide) HVV.out.1 HVV.out.2] at e
    rw [← blk_cell hgv 0]; exact e
  rw [hl1] at hve hcl
  subst hve
  have hF4 := HF3.out.only ho4 HFG.out.1
  have h45c : w4.cell? ⟨f, 5, none⟩ = some (.slice none 0 0) := blk_cell hF4 5
  have f45 : w4.frozen? ⟨f, 5, none⟩ = false := blk_frozen hF4 _
  have hF5 : Fk (w4.setCell ⟨f, 5, none⟩ (.slice (some ⟨hv, 0, none⟩) 1 c4)) f 512 0 0 false (.slice (some ⟨hv, 0, none⟩) 1 c4) 0 := blk_put hF4 5 (.slice (some ⟨hv, 0, none⟩) 1 c4) rfl
  have hr5 : RdAt (w4.setCell ⟨f, 5, none⟩ (.slice (some ⟨hv, 0, none⟩) 1 c4)) g s (3 + n : Nat) (-1) := blk_far hr4 (fun h => HFG.out.1 h.symm) _
  have hE5 : Eof (w4.setCell ⟨f, 5, none⟩ (.slice (some ⟨hv, 0, none⟩) 1 c4)) pa := (World.cell?_of_block (Below.heap_setCell w4 ⟨f, 5, none⟩ _ 1 (show (1 : Nat) ≠ f by have := HFG.out; omega))).trans (HE3.out.only ho4 HFG.out.2.2.1)
  have hfv : f < hv := Nat.lt_of_lt_of_le (blk_lt HF3.out) hhv
  have hgv2 : g < hv := Nat.lt_of_lt_of_le HG3.out hhv
  have hv5 : (w4.setCell ⟨f, 5, none⟩ (.slice (some ⟨hv, 0, none⟩) 1 c4)).heap[hv]? = some (.cells cur 167 (0, 0)) := blk_far hgv (Nat.ne_of_gt hfv) _
  have HX5 := Aside0.mk (HEX.out _ hr5 hE5 (blk_lt hr5))
  have HF5 := Aside0.mk hF5
  have HO4 := Aside0.mk ho4
  have HV5 := Aside0.mk (And.intro hv5 (And.intro hcv (And.intro hfv hgv2)))
  clear hF4 hF5 hr5 hE5 hn4 hr4 ho4 h24 f24 h35 HS3 hhv hgv hcc hcv hfv hgv2 hv5 hl1
  go_wp2_with fail
  refine HX5.out.mono ?_
  rintro e w6 ⟨rfl, hr6, ho6⟩
  have hF6 := HF5.out.only ho6 HFG.out.1
  have hv6 : w6.heap[hv]? = some (.cells cur 167 (0, 0)) := (ho6.block hv (blk_lt HV5.out.1) (by have := HV5.out.2.2.2; simp; omega)).trans HV5.out.1
  have c65 : w6.cell? ⟨f, 5, none⟩ = some (.slice (some ⟨hv, 0, none⟩) 1 c4) := blk_cell hF6 5
  have HN := Aside0.mk (fnorm_one V hv c4 cur w6.drew HVV.out.1 HVV.out.2 hv6 HV5.out.2.1 hcl)
  have H6 := Aside0.mk (And.intro hF6 (And.intro hr6 hv6))
  have HO6 := Aside0.mk ho6
  clear hF6 hr6 hv6 ho6 h45c f45 HX5 HE3
  go_wp2_with fail
  refine wp_region_noPanic ?_
  refine wp_region_held_drew (S := (fun w' => w'.cell? ⟨f, 5, none⟩ = some (.slice (some ⟨hv, 0, none⟩) 1 c4))) (by kernel_rfl) ?_ (fun hHeld => ?_)
  · (try dsimp only); exact c65
  refine wpAnyH_take (i := 0) (oi := ⟨some 80, _, _, _, _, _⟩) (v := ?_) rfl (by kernel_rfl) (by kernel_rfl) (by kernel_rfl) (fun _ _ _ h => h) (Or.inl ⟨by rfl, ?_⟩) (by assumption) ?_
  rotate_left
  · intro w hSw; (try dsimp only at hSw); go_simp; first | done | with_reducible rfl
  try simp only [Act.put, List.setIfInBounds_toArray, List.set_cons_zero, List.set_cons_succ]
  refine wpAnyH_take (i := 1) (oi := ⟨some 81, _, _, _, _, _⟩) (v := ?_) rfl (by kernel_rfl) (by kernel_rfl) (by kernel_rfl) (fun _ _ _ h => h) (Or.inl ⟨by rfl, ?_⟩) (by assumption) ?_
  rotate_left
  · intro w hSw; (try dsimp only at hSw); go_simp; first | done | with_reducible rfl
  try simp only [Act.put, List.setIfInBounds_toArray, List.set_cons_zero, List.set_cons_succ]
  refine wpAnyH_take (i := 2) (oi := ⟨some 82, _, _, _, _, _⟩) (v := ?_) rfl (by kernel_rfl) (by kernel_rfl) (by kernel_rfl) (fun _ _ _ h => h) (Or.inl ⟨by rfl, ?_⟩) (by assumption) ?_
  rotate_left
  · intro w hSw; (try dsimp only at hSw); go_simp; first | done | with_reducible rfl
  try simp only [Act.put, List.setIfInBounds_toArray, List.set_cons_zero, List.set_cons_succ]
  refine wpAnyH_take (i := 3) (oi := ⟨some 83, _, _, _, _, _⟩) (v := ?_) rfl (by kernel_rfl) (by kernel_rfl) (by kernel_rfl) (fun _ _ _ h => h) (Or.inl ⟨by rfl, ?_⟩) (by assumption) ?_
  rotate_left
  · intro w hSw; (try dsimp only at hSw); go_simp; first | done | with_reducible rfl
  try simp only [Act.put, List.setIfInBounds_toArray, List.set_cons_zero, List.set_cons_succ]
  refine wpAnyH_take (i := 4) (oi := ⟨some 84, _, _, _, _, _⟩) (v := ?_) rfl (by kernel_rfl) (by kernel_rfl) (by kernel_rfl) (fun _ _ _ h => h) (Or.inl ⟨by rfl, ?_⟩) (by assumption) ?_
  rotate_left
  · intro w hSw; (try dsimp only at hSw); go_simp; first | done | with_reducible rfl
  try simp only [Act.put, List.setIfInBounds_toArray, List.set_cons_zero, List.set_cons_succ]
  refine wpAnyH_take (i := 5) (oi := ⟨some 85, _, _, _, _, _⟩) (v := ?_) rfl (by kernel_rfl) (by kernel_rfl) (by kernel_rfl) (fun _ _ _ h => h) (Or.inl ⟨by rfl, ?_⟩) (by assumption) ?_
  rotate_left
  · intro w hSw; (try dsimp only at hSw); go_simp; first | done | with_reducible rfl
  try simp only [Act.put, List.setIfInBounds_toArray, List.set_cons_zero, List.set_cons_succ]
  refine wpAnyH_take (i := 6) (oi := ⟨some 86, _, _, _, _, _⟩) (v := ?_) rfl (by kernel_rfl) (by kernel_rfl) (by kernel_rfl) (fun _ _ _ h => h) (Or.inl ⟨by rfl, ?_⟩) (by assumption) ?_
  rotate_left
  · intro w hSw; (try dsimp only at hSw); go_simp; first | done | with_reducible rfl
  try simp only [Act.put, List.setIfInBounds_toArray, List.set_cons_zero, List.set_cons_succ]
  refine wpAnyH_take (i := 7) (oi := ⟨some 87, _, _, _, _, _⟩) (v := ?_) rfl (by kernel_rfl) (by kernel_rfl) (by kernel_rfl) (fun _ _ _ h => h) (Or.inl ⟨by rfl, ?_⟩) (by assumption) ?_
  rotate_left
  · intro w hSw; (try dsimp only at hSw); go_simp; first | done | with_reducible rfl
  try simp only [Act.put, List.setIfInBounds_toArray, List.set_cons_zero, List.set_cons_succ]
  refine wpAnyH_take (i := 8) (oi := ⟨some 88, _, _, _, _, _⟩) (v := ?_) rfl (by kernel_rfl) (by kernel_rfl) (by kernel_rfl) (fun _ _ _ h => h) (Or.inl ⟨by rfl, ?_⟩) (by assumption) ?_
  rotate_left
  · intro w hSw; (try dsimp only at hSw); go_simp; first | done | with_reducible rfl
  try simp only [Act.put, List.setIfInBounds_toArray, List.set_cons_zero, List.set_cons_succ]
  refine wpAnyH_take (i := 9) (oi := ⟨some 89, _, _, _, _, _⟩) (v := ?_) rfl (by kernel_rfl) (by kernel_rfl) (by kernel_rfl) (fun _ _ _ h => h) (Or.inl ⟨by rfl, ?_⟩) (by assumption) ?_
  rotate_left
  · intro w hSw; (try dsimp only at hSw); go_simp; first | done | with_reducible rfl
  try simp only [Act.put, List.setIfInBounds_toArray, List.set_cons_zero, List.set_cons_succ]
  refine wpAnyH_ready (rs := [10]) (by kernel_rfl) (by simp) ?_
  refine AllReadyH.cons rfl (fun K hK => ?_) AllReadyH.nil
  go_simp
  refine HN.out.mono ?_
  rintro e w7 ⟨tz, htz, rfl, hw7⟩
  have hb7 : Below hv w6 w7 := by
    rcases hw7 with rfl | ⟨y, rfl⟩
    · exact below_drew (Below.refl _ _)
    · exact (below_drew (Below.refl _ _)).setCell (p := ⟨hv, 0, none⟩) (Nat.le_refl _) _
  have c75 : w7.cell? ⟨f, 5, none⟩ = some (.slice (some ⟨hv, 0, none⟩) 1 c4) := blk_cell (show Fk w7 f 512 0 0 false (.slice (some ⟨hv, 0, none⟩) 1 c4) 0 from (hb7.block f HV5.out.2.2.1).trans H6.out.1) 5
  have HB7 := Aside0.mk hb7
  have htz0 : (0 : Int) ≤ tz := by omega
  have htz1 : (tz : Int) < 64 := by omega
  clear hb7 hw7
  go_wp2_with fail
  refine hK.out _ _ ?_ (fun hQ1 => ?_)
  · (try dsimp only); exact c75
  clear hK K hHeld
  try simp only [Act.put, List.setIfInBounds_toArray, List.set_cons_zero, List.set_cons_succ]
  refine wpAnyH_take (i := 11) (oi := ⟨some 91, _, _, _, _, _⟩) (v := ?_) rfl (by kernel_rfl) (by kernel_rfl) (by kernel_rfl) (fun _ _ _ h => h) (Or.inl ⟨by rfl, ?_⟩) (by assumption) ?_
  rotate_left
  · intro w hSw; (try dsimp only at hSw); go_simp; first | done | with_reducible rfl
  try simp only [Act.put, List.setIfInBounds_toArray, List.set_cons_zero, List.set_cons_succ]
  refine wpAnyH_take (i := 12) (oi := ⟨some 13, _, _, _, _, _⟩) (v := ?_) rfl (by kernel_rfl) (by kernel_rfl) (by kernel_rfl) (fun _ _ _ h => h) (Or.inl ⟨by rfl, ?_⟩) (by assumption) ?_
  rotate_left
  · intro w hSw; (try dsimp only at hSw); go_simp; first | done | with_reducible rfl
  try simp only [Act.put, List.setIfInBounds_toArray, List.set_cons_zero, List.set_cons_succ]
  refine wpAnyH_done (by kernel_rfl) ?_ _
  refine NoPanic.normal ?_
  have hw : IntKind.i64.wrap (IntKind.i64.wrap 64 - (tz : Int)) = 64 - tz := by simp [IntKind.wrap, IntKind.bits, IntKind.signed]; omega
  rw [hw]
  have hF7 : Fk w7 f 512 0 0 false (.slice (some ⟨hv, 0, none⟩) 1 c4) 0 := (HB7.out.block f HV5.out.2.2.1).trans H6.out.1
  have c70 : w7.cell? ⟨f, 0, none⟩ = some (.int .u32 512) := blk_cell hF7 0
  have f70 : w7.frozen? ⟨f, 0, none⟩ = false := blk_frozen hF7 _
  have hF8 : Fk (w7.setCell ⟨f, 0, none⟩ (.int .u32 512)) f 512 0 0 false (.slice (some ⟨hv, 0, none⟩) 1 c4) 0 := blk_put hF7 0 (.int .u32 512) rfl
  have c83 : (w7.setCell ⟨f, 0, none⟩ (.int .u32 512)).cell? ⟨f, 3, none⟩ = some (.int .u8 0) := blk_cell hF8 3
  have f83 : (w7.setCell ⟨f, 0, none⟩ (.int .u32 512)).frozen? ⟨f, 3, none⟩ = false := blk_frozen hF8 _
  have hF9 : Fk ((w7.setCell ⟨f, 0, none⟩ (.int .u32 512)).setCell ⟨f, 3, none⟩ (.int .u8 1)) f 512 0 1 false (.slice (some ⟨hv, 0, none⟩) 1 c4) 0 := blk_put hF8 3 (.int .u8 1) rfl
  have c96 : ((w7.setCell ⟨f, 0, none⟩ (.int .u32 512)).setCell ⟨f, 3, none⟩ (.int .u8 1)).cell? ⟨f, 6, none⟩ = some (.int .i32 0) := blk_cell hF9 6
  have f96 : ((w7.setCell ⟨f, 0, none⟩ (.int .u32 512)).setCell ⟨f, 3, none⟩ (.int .u8 1)).frozen? ⟨f, 6, none⟩ = false := blk_frozen hF9 _
  have HF9 := Aside0.mk hF9
  have HF7 := Aside0.mk hF7
  clear hF7 hF8 hF9 hw c65 c75
  rcases Nat.eq_or_lt_of_le hqn with hq | hq
  · have hd : (q : Int) - n = 0 := by omega
    rw [hd]
    have HQQ := Aside0.mk hq
    clear hq
    go_wp2_with fail
    have hF10 : Fk (((w7.setCell ⟨f, 0, none⟩ (.int .u32 512)).setCell ⟨f, 3, none⟩ (.int .u8 1)).setCell ⟨f, 6, none⟩ (.int .i32 (64 - (tz : Int) + x))) f 512 0 1 false (.slice (some ⟨hv, 0, none⟩) 1 c4) (64 - (tz : Int) + x) := blk_put HF9.out 6 (.int .i32 (64 - (tz : Int) + x)) rfl
    have HR10 := Aside0.mk (round_fits f c4 (some ⟨hv, 0, none⟩) (64 - (tz : Int) + x) 0 false _ hF10)
    have HF10 := Aside0.mk hF10
    clear hF10
    refine HR10.out.mono ?_
    rintro e w11 ⟨rfl, rfl⟩
    go_wp2_with fail
    refine bodyPost_ret (results_tmp3 rfl _ _ _) rfl ?_
    have hk : ∀ k, some g = some k → f ≤ k := fun k hk => by have e := Option.some.inj hk; have := HFL.out; omega
    have hgf : g ≠ f := fun h => HFG.out.1 h.symm
    refine ⟨rfl, ⟨_, (64 - (tz : Int) + x), by omega, by omega, blk_put HF10.out 2 (.int .i8 0) rfl⟩, blk_far (blk_far (blk_far (blk_far ((HB7.out.block g HV5.out.2.2.2).trans H6.out.2.1) hgf _) hgf _) hgf _) hgf _, ?_⟩
    exact ((((((((HB1.out.grown HO2.out (Nat.le_of_lt (blk_lt HF1.out)) hk).setCell (p := ⟨f, 4, none⟩) (Nat.le_refl _) (.bool false)).grown HO4.out (Nat.le_of_lt (blk_lt HF3.out)) hk).setCell (p := ⟨f, 5, none⟩) (Nat.le_refl _) (.slice (some ⟨hv, 0, none⟩) 1 c4)).grown HO6.out (Nat.le_of_lt (blk_lt HF5.out)) hk).trans (HB7.out.mono (Nat.le_of_lt HV5.out.2.2.1))).setCell (p := ⟨f, 0, none⟩) (Nat.le_refl _) _).setCell (p := ⟨f, 3, none⟩) (Nat.le_refl _) _ |>.setCell (p := ⟨f, 6, none⟩) (Nat.le_refl _) _).setCell (p := ⟨f, 2, none⟩) (Nat.le_refl _) _
  · have hd : (q : Int) - n < 0 := by omega
    obtain ⟨d, hdd⟩ : ∃ d, d = (q : Int) - n := ⟨_, rfl⟩
    rw [← hdd] at hd ⊢
    have hd2 : -100 ≤ d := by omega
    have HQQ := Aside0.mk hq
    clear hq hdd
    go_wp2_with fail
    have hF10 : Fk (((w7.setCell ⟨f, 0, none⟩ (.int .u32 512)).setCell ⟨f, 3, none⟩ (.int .u8 1)).setCell ⟨f, 6, none⟩ (.int .i32 (64 - (tz : Int) + d * 4 + x))) f 512 0 1 false (.slice (some ⟨hv, 0, none⟩) 1 c4) (64 - (tz : Int) + d * 4 + x) := blk_put HF9.out 6 (.int .i32 (64 - (tz : Int) + d * 4 + x)) rfl
    have HR10 := Aside0.mk (round_fits f c4 (some ⟨hv, 0, none⟩) (64 - (tz : Int) + d * 4 + x) 0 false _ hF10)
    have HF10 := Aside0.mk hF10
    clear hF10
    refine HR10.out.mono ?_
    rintro e w11 ⟨rfl, rfl⟩
    go_wp2_with fail
    refine bodyPost_ret (results_tmp3 rfl _ _ _) rfl ?_
    have hk : ∀ k, some g = some k → f ≤ k := fun k hk => by have e := Option.some.inj hk; have := HFL.out; omega
    have hgf : g ≠ f := fun h => HFG.out.1 h.symm
    refine ⟨rfl, ⟨_, (64 - (tz : Int) + d * 4 + x), by omega, by omega, blk_put HF10.out 2 (.int .i8 0) rfl⟩, blk_far (blk_far (blk_far (blk_far ((HB7.out.block g HV5.out.2.2.2).trans H6.out.2.1) hgf _) hgf _) hgf _) hgf _, ?_⟩
    exact ((((((((HB1.out.grown HO2.out (Nat.le_of_lt (blk_lt HF1.out)) hk).setCell (p := ⟨f, 4, none⟩) (Nat.le_refl _) (.bool false)).grown HO4.out (Nat.le_of_lt (blk_lt HF3.out)) hk).setCell (p := ⟨f, 5, none⟩) (Nat.le_refl _) (.slice (some ⟨hv, 0, none⟩) 1 c4)).grown HO6.out (Nat.le_of_lt (blk_lt HF5.out)) hk).trans (HB7.out.mono (Nat.le_of_lt HV5.out.2.2.1))).setCell (p := ⟨f, 0, none⟩) (Nat.le_refl _) _).setCell (p := ⟨f, 3, none⟩) (Nat.le_refl _) _ |>.setCell (p := ⟨f, 6, none⟩) (Nat.le_refl _) _).setCell (p := ⟨f, 2, none⟩) (Nat.le_refl _) _
end Go.Proofs.YtgpoplfgngiilaaGreatDoor

namespace Go.Proofs.YtgpoplfgngiilaaGreatDoor
open Go.RowKit Go.Proofs.YtgpoplfgngiilaaGreatDoorW.PrintWords PAll Pl Dv

/-- What is known of scan at whatever world. -/
def FsOk (R : Int → Int → Prop) (f g : Nat) (s : ByteArray) (w : World) (e : Ending) (w' : World) : Prop :=
  e = .returned (.tuple #[.pointer (some ⟨f, 0, none⟩), .int .i64 16, .nilIface]) ∧ (∃ fo m x, R fo x ∧ Fk w' f 512 0 fo false m x) ∧ RdAt w' g s s.size (-1) ∧ Below f w w'
def FpOk (R : Int → Int → Prop) (f : Nat) (w : World) (w' : World) : Prop := (∃ fo m x, R fo x ∧ Fk w' f 512 0 fo false m x) ∧ Below f w w'

set_option maxHeartbeats 4000000 in
set_option maxRecDepth 100000 in
theorem parse_any (R : Int → Int → Prop) (f : Nat) (s : ByteArray) (pa : Addr) (w : World) (hs5 : 5 ≤ s.size) (hs : s.size ≤ 100000) (hF : Fk w f 512 0 0 false (.slice none 0 0) 0) (hf1 : 1 < f) (hev : Eof w pa)
    (hsc : ∀ g W, f < g → g < W.heap.size → Fk W f 512 0 0 false (.slice none 0 0) 0 → RdAt W g s 0 (-1) → Eof W pa → Calls Tryz.prog 147 #[.pointer (some ⟨f, 0, none⟩), .iface 133 (.pointer (some ⟨g, 0, none⟩)), .int .i64 0] W (FsOk R f g s W)) :
    Calls Tryz.prog 105 #[.pointer (some ⟨f, 0, none⟩), .string s, .int .i64 0] w fun e w' => e = .returned (.tuple #[.pointer (some ⟨f, 0, none⟩), .int .i64 16, .nilIface]) ∧ FpOk R f w w' := by
  have n3 : ((s.size : Int) == 3) = false := by simp; omega
  have n4 : ((s.size : Int) == 4) = false := by simp; omega
  have hfw : f < w.heap.size := blk_lt hF
  have hr1 : RdAt (w.alloc (.cells #[.string s, .int .i64 0, .int .i64 (-1)] 189)) w.heap.size s 0 (-1) := heap_alloc_new w _
  have hb1 : Below w.heap.size w (w.alloc (.cells #[.string s, .int .i64 0, .int .i64 (-1)] 189)) := below_alloc (Below.refl _ _) _
  have HS := Aside0.mk (hsc w.heap.size _ hfw (blk_lt hr1) ((hb1.block f hfw).trans hF) hr1 (hev.below hb1 (by omega)))
  have HNR := Aside0.mk (newReader_any s w)
  have HB1 := Aside0.mk (hb1.mono (Nat.le_of_lt hfw))
  have HW := Aside0.mk (And.intro hfw hf1)
  have HSZ := Aside0.mk hs
  have HEV := Aside0.mk hev
  have heq := fun W => eof_neq pa W
  have heq2 := fun W => run_eql_iface_nil_left (P := Tryz.prog) (w := W) 279 (.pointer (some pa)) Tryz.underlying85
  clear hs5 hs hF hf1 hev hsc hfw hr1 hb1
  go_enter Tryz.func105, Tryz.ntmps105
  go_wp2_with fail
  refine HNR.out.mono ?_
  rintro e w' ⟨rfl, rfl⟩
  go_wp2_with fail
  refine HS.out.mono ?_
  rintro e w2 ⟨rfl, hp, hr2, hb2⟩
  have hev2 : Eof w2 pa := (World.cell?_of_block ((HB1.out.trans hb2).block 1 HW.out.2)).trans HEV.out
  have HRE := Aside0.mk (read_end w.heap.size s s.size (-1) _ w2 HSZ.out (Nat.le_refl _) HSZ.out hr2 (by have := HW.out; omega) hev2)
  have HP := Aside0.mk (And.intro hp hb2)
  have HE2 := Aside0.mk hev2
  clear hp hr2 hb2 hev2 HS
  go_wp2_with fail
  refine HRE.out.mono ?_
  rintro e w3 ⟨rfl, -, ho3⟩
  have hev3 : w3.cell? ⟨1, 0, none⟩ = some (.iface 279 (.pointer (some pa))) := HE2.out.only ho3 (by have := HW.out; omega)
  have HO3 := Aside0.mk ho3
  clear ho3 HRE
  go_wp2_with fail
  refine bodyPost_ret (results_tmp3 rfl _ _ _) rfl ?_
  obtain ⟨⟨fo, m, x, hR, hk⟩, hb⟩ := HP.out
  exact ⟨rfl, ⟨fo, m, x, hR, hk.only HO3.out (Nat.ne_of_lt HW.out.1)⟩, (HB1.out.trans hb).grown HO3.out (Nat.le_of_lt (blk_lt hk)) (fun k hk => by have e := Option.some.inj hk; have := HW.out; omega)⟩

theorem flSetString (R : Int → Int → Prop) (f : Nat) (s : ByteArray) (pa : Addr) (w : World) (hs5 : 5 ≤ s.size) (hs : s.size ≤ 100000) (hF : Fk w f 512 0 0 false (.slice none 0 0) 0) (hf1 : 1 < f) (hev : Eof w pa)
    (hsc : ∀ g W, f < g → g < W.heap.size → Fk W f 512 0 0 false (.slice none 0 0) 0 → RdAt W g s 0 (-1) → Eof W pa → Calls Tryz.prog 147 #[.pointer (some ⟨f, 0, none⟩), .iface 133 (.pointer (some ⟨g, 0, none⟩)), .int .i64 0] W (FsOk R f g s W)) :
    Calls Tryz.prog 69 #[.pointer (some ⟨f, 0, none⟩), .string s] w fun e w' => e = .returned (.tuple #[.pointer (some ⟨f, 0, none⟩), .bool true]) ∧ FpOk R f w w' := by
  have HP := Aside0.mk (parse_any R f s pa w hs5 hs hF hf1 hev hsc)
  clear hs5 hs hF hf1 hev hsc
  go_enter Tryz.func69, Tryz.ntmps69
  go_wp2_with fail
  refine HP.out.mono ?_
  rintro e w' ⟨rfl, h⟩
  have H := Aside0.mk h
  clear h
  go_wp2_with fail
  refine bodyPost_ret (results_tmp2 rfl _ _ _) rfl ?_
  exact ⟨rfl, H.out⟩
end Go.Proofs.YtgpoplfgngiilaaGreatDoor

namespace Go.Proofs.YtgpoplfgngiilaaGreatDoor
open Go.RowKit Go.Proofs.YtgpoplfgngiilaaGreatDoorW.PrintWords PAll

set_option maxHeartbeats 400000 in
theorem bits_any (g : Nat) (v : Value) (w : World) (h1 : w.cell? ⟨g, 1, none⟩ = some v) :
    Calls Tryz.prog 92 #[.pointer (some ⟨g, 0, none⟩)] w fun e w' => e = .returned v ∧ w = w' := by
  go_enter Tryz.func92, Tryz.ntmps92
  go_wp2
  go_ret
  exact ⟨rfl, rfl⟩

set_option maxHeartbeats 1000000 in
set_option maxRecDepth 100000 in
theorem plain_any (g : Nat) (A : Option Addr) (c : Nat) (xs : List Int) (w : World) (h1 : w.cell? ⟨g, 1, none⟩ = some (.slice A xs.length c)) (hr : Kd.C (Kd.int .u64) w A xs.length xs) (hl : xs.length < 17592186044416) :
    Calls Tryz.prog 61 #[.pointer (some ⟨g, 0, none⟩)] w fun e w' => ∃ v : Value, e = .returned v ∧ Kd.R (Kd.int .u64) 50 w' w.heap.size (fun _ => True) v xs ∧ Below w.heap.size w w' := by
  have HR := Aside0.mk hr
  clear hr
  go_enter Tryz.func61, Tryz.ntmps61
  go_wp2_with fail
  refine (bits_any g _ w h1).mono ?_
  rintro e w' ⟨rfl, rfl⟩
  go_wp2_with fail
  go_loopw [3, 9] (fun v i W => ∃ k : Nat, k ≤ xs.length ∧ i = .int .i64 k ∧ Kd.R (Kd.int .u64) 50 W w.heap.size (fun _ => True) v (xs.take k) ∧ Below w.heap.size w W) (fun _ i _ => xs.length - (intOf i).toNat)
  case atStart => exact ⟨0, by omega, rfl, Kd.R_nil _ _ _ _ _, Below.refl _ _⟩
  case round =>
    obtain ⟨k, hk, rfl, HO, HB⟩ := hrel
    have HO := Aside0.mk HO
    have HB := Aside0.mk HB
    by_cases hlt : k < xs.length
    · have hlt' : (k : Int) < xs.length := by omega
      obtain ⟨ad, rfl, hcell⟩ := C_at (Kd.C_below HR.out HB.out) k hlt
      have HT : Hid (xs.take (k + 1) = xs.take k ++ [xs.getD k 0]) := take_snoc xs k hlt
      obtain ⟨x, hx⟩ : ∃ x, xs.getD k 0 = x := ⟨_, rfl⟩
      rw [hx] at hcell HT
      clear hx
      have hll : (xs.take k).length ≤ k := List.length_take_le _ _
      go_wp2_with ((with_reducible refine gate_builtin (b := .append) (xs := #[.tmp 13, .tmp 15]) rfl ?_); at_builtin; refine Kd.R_append (Kd.int .u64) (w0 := w) w.heap.size rfl (.tmp 13) (.tmp 15) 22 50 (.int .u64 0) 8 rfl Tryz.underlying22 info50 rfl (by decide) (by omega) u3 (xs.take k) x [.int .u64 x] (fun _ => True) (fun _ => False) rfl rfl ?aP (fun _ hk => hk.elim) ?aF ?aO ?aB ?aS ?aL ?_; (case aP => exact rfl); (case aB => exact HB.out); (case aF => exact (fun _ _ => trivial)); (case aO => exact HO.out); (case aS => exact below_size HB.out); (case aL => omega); intro v6 w6 ho hb hg hat; have HO6 := Aside0.mk ho; have HB6 := Aside0.mk hb; clear ho hb hg hat)
      go_roundw
      case rel => exact ⟨k + 1, by omega, by go_num, by rw [HT.out]; exact HO6.out, HB6.out⟩
      case measure => simp [intOf]; omega
    · obtain rfl : k = xs.length := by omega
      go_wp2_with fail
      go_ret
      rw [List.take_length] at HO
      exact ⟨_, rfl, HO.out, HB.out⟩

def sgn (neg : Bool) (n : Nat) : Int := if n = 0 then 0 else if neg then -1 else 1

set_option maxHeartbeats 400000 in
theorem sign_any (g : Nat) (neg : Bool) (A : Option Addr) (n c : Nat) (w : World) (h0 : w.cell? ⟨g, 0, none⟩ = some (.bool neg)) (h1 : w.cell? ⟨g, 1, none⟩ = some (.slice A n c)) :
    Calls Tryz.prog 90 #[.pointer (some ⟨g, 0, none⟩)] w fun e w' => e = .returned (.int .i64 (sgn neg n)) ∧ w = w' := by
  by_cases hn : n = 0
  · subst hn
    go_enter Tryz.func90, Tryz.ntmps90
    go_wp2
    go_ret
    exact ⟨by simp [sgn], rfl⟩
  · have hz : ((n : Int) == 0) = false := by simpa using hn
    cases neg with
    | true =>
      go_enter Tryz.func90, Tryz.ntmps90
      go_wp2
      go_ret
      exact ⟨by simp [sgn, hn], rfl⟩
    | false =>
      go_enter Tryz.func90, Tryz.ntmps90
      go_wp2
      go_ret
      exact ⟨by simp [sgn, hn], rfl⟩

set_option maxHeartbeats 1000000 in
theorem number_any (g : Nat) (neg : Bool) (A : Option Addr) (c : Nat) (xs : List Int) (w : World) (h0 : w.cell? ⟨g, 0, none⟩ = some (.bool neg)) (h1 : w.cell? ⟨g, 1, none⟩ = some (.slice A xs.length c)) (hr : Kd.C (Kd.int .u64) w A xs.length xs) (hl : xs.length < 17592186044416) :
    Calls Tryz.prog 58 #[.pointer (some ⟨g, 0, none⟩)] w fun e w' => ∃ v : Value, e = .returned (.agg #[.bool (decide (sgn neg xs.length < 0)), v]) ∧ Kd.R (Kd.int .u64) 50 w' w.heap.size (fun _ => True) v xs ∧ Below w.heap.size w w' := by
  have hg : g < w.heap.size := World.block_lt_of_cell? w _ h0
  have HR := Aside0.mk hr
  clear hr
  have HB := Aside0.mk (below_alloc (Below.refl w.heap.size w) (.cells #[.bool false, .slice none 0 0] 24))
  go_enter Tryz.func58, Tryz.ntmps58
  go_wp2_with fail
  have k0 : (w.alloc (.cells #[.bool false, .slice none 0 0] 24)).cell? ⟨g, 0, none⟩ = some (.bool neg) := (HB.out.cell (by exact hg)).trans h0
  have k1 : (w.alloc (.cells #[.bool false, .slice none 0 0] 24)).cell? ⟨g, 1, none⟩ = some (.slice A xs.length c) := (HB.out.cell (by exact hg)).trans h1
  refine (sign_any g neg A xs.length c _ k0 k1).mono ?_
  rintro e w' ⟨rfl, rfl⟩
  go_wp2_with fail
  refine (plain_any g A c xs _ k1 (Kd.C_below HR.out (HB.out)) hl).mono ?_
  rintro e w1 ⟨v, rfl, hO, hb⟩
  obtain ⟨Ao, co, rfl⟩ := Kd.R_slice hO
  have HO := Aside0.mk hO
  have HB1 := Aside0.mk hb
  clear hO hb
  have hbk : w1.heap[w.heap.size]? = some (.cells #[.bool false, .slice none 0 0] 24 (0, 0)) := (HB1.out.block w.heap.size (by simp)).trans (heap_alloc_new w _)
  have hc0 : w1.cell? ⟨w.heap.size, 0, none⟩ = some (.bool false) := blk_cell hbk 0
  have hc1 : w1.cell? ⟨w.heap.size, 1, none⟩ = some (.slice none 0 0) := blk_cell hbk 1
  have hf0 : w1.frozen? ⟨w.heap.size, 0, none⟩ = false := blk_frozen hbk 0
  have hf1 : w1.frozen? ⟨w.heap.size, 1, none⟩ = false := blk_frozen hbk 1
  have HBK := Aside0.mk hbk
  clear hbk
  go_wp2_with fail
  refine bodyPost_ret (results_cell_row rfl _ _ w.heap.size 24 #[.bool (decide (sgn neg xs.length < 0)), .slice Ao xs.length co] (0, 0) _ rfl (blk_put (cs := #[.bool (decide (sgn neg xs.length < 0)), .slice none 0 0]) (blk_put (cs := #[.bool false, .slice none 0 0]) HBK.out 0 _ rfl) 1 _ rfl) Tryz.underlying24 rfl (by kernel_rfl)) rfl ?_
  refine ⟨_, rfl, ?_, ?_⟩
  · exact Kd.R_mono (Kd.R_far (p := ⟨w.heap.size, 1, none⟩) (Kd.R_far (p := ⟨w.heap.size, 0, none⟩) (Kd.R_types (Kd.R_lower HO.out (by simp)) HBK.out (by decide)) (fun _ hk => hk.2) _) (fun _ hk => hk.2) _) (fun _ _ => trivial)
  · exact ((HB.out.trans (HB1.out.mono (by simp))).setCell (by simp) _).setCell (by simp) _
end Go.Proofs.YtgpoplfgngiilaaGreatDoor

namespace Go.Proofs.YtgpoplfgngiilaaGreatDoor
open Go.RowKit Go.Proofs.YtgpoplfgngiilaaGreatDoorW.PrintWords PAll

end Go.Proofs.YtgpoplfgngiilaaGreatDoor

namespace Go.Proofs.YtgpoplfgngiilaaGreatDoor
theorem ta67_126_108 (W : World) (v : Value) : (Instr.typeAssert (.iface 126 v) 67 108 true).run Tryz.prog W = .ok (.tuple #[.bool false, .bool false]) W := by kernel_rfl
theorem ta67_126_109 (W : World) (v : Value) : (Instr.typeAssert (.iface 126 v) 67 109 true).run Tryz.prog W = .ok (.tuple #[.pointer none, .bool false]) W := by kernel_rfl
theorem ta67_126_88 (W : World) (v : Value) : (Instr.typeAssert (.iface 126 v) 67 88 true).run Tryz.prog W = .ok (.tuple #[.int .i64 0, .bool false]) W := by kernel_rfl
theorem ta67_126_94 (W : World) (v : Value) : (Instr.typeAssert (.iface 126 v) 67 94 true).run Tryz.prog W = .ok (.tuple #[.agg #[.pointer none], .bool false]) W := by kernel_rfl
theorem ta67_126_126 (W : World) (v : Value) : (Instr.typeAssert (.iface 126 v) 67 126 true).run Tryz.prog W = .ok (.tuple #[v, .bool true]) W := by kernel_rfl
theorem ta20_118_2 (W : World) (v : Value) : (Instr.typeAssert (.iface 118 v) 20 2 true).run Tryz.prog W = .ok (.tuple #[.int .i64 0, .bool false]) W := by kernel_rfl
theorem ta20_118_89 (W : World) (v : Value) : (Instr.typeAssert (.iface 118 v) 20 89 true).run Tryz.prog W = .ok (.tuple #[.pointer none, .bool false]) W := by kernel_rfl
theorem ta20_118_118 (W : World) (v : Value) : (Instr.typeAssert (.iface 118 v) 20 118 true).run Tryz.prog W = .ok (.tuple #[v, .bool true]) W := by kernel_rfl
end Go.Proofs.YtgpoplfgngiilaaGreatDoor

namespace Go.Proofs.YtgpoplfgngiilaaGreatDoor
open Go.RowKit Go.Proofs.YtgpoplfgngiilaaGreatDoorW.PrintWords PAll

end Go.Proofs.YtgpoplfgngiilaaGreatDoor

namespace Go.Proofs.YtgpoplfgngiilaaGreatDoor
open Go.RowKit Go.Proofs.YtgpoplfgngiilaaGreatDoorW.PrintWords PAll

/-- A Value of a number as plain data: its kind, its sign, its words, the words under it. -/
def numVal (k : Int) (neg : Bool) (v v2 : Value) : Value := .agg #[.int .i64 k, .bool false, .string ⟨#[]⟩, .bool neg, v, v2, .bool false, .slice none 0 0, .slice none 0 0]
end Go.Proofs.YtgpoplfgngiilaaGreatDoor

namespace Go.Proofs.YtgpoplfgngiilaaGreatDoor
open Go.RowKit Go.Proofs.YtgpoplfgngiilaaGreatDoorW.PrintWords PAll Pl

theorem kind126 (g : Nat) (w : World) : Calls Tryz.prog 335 #[.agg #[.pointer (some ⟨g, 0, none⟩)]] w fun e w' => e = .returned (.int .i64 4) ∧ w.alloc (.cells #[.pointer (some ⟨g, 0, none⟩)] 126) = w' := by
  go_enter Tryz.func335, Tryz.ntmps335
  go_wp2
  go_ret
  exact ⟨rfl, rfl⟩

set_option maxHeartbeats 400000 in
set_option maxRecDepth 100000 in
theorem val126 (g : Nat) (w : World) :
    Calls Tryz.prog 57 #[.iface 126 (.agg #[.pointer (some ⟨g, 0, none⟩)])] w fun e w' => e = .returned (.iface 118 (.pointer (some ⟨g, 0, none⟩))) ∧ Below w.heap.size w w' := by
  have t1 := fun W => ta67_126_108 W (.agg #[.pointer (some ⟨g, 0, none⟩)])
  have t2 := fun W => ta67_126_109 W (.agg #[.pointer (some ⟨g, 0, none⟩)])
  have t3 := fun W => ta67_126_88 W (.agg #[.pointer (some ⟨g, 0, none⟩)])
  have t4 := fun W => ta67_126_94 W (.agg #[.pointer (some ⟨g, 0, none⟩)])
  have t5 := fun W => ta67_126_126 W (.agg #[.pointer (some ⟨g, 0, none⟩)])
  go_enter Tryz.func57, Tryz.ntmps57
  go_wp2
  go_ret
  exact ⟨rfl, below_alloc (Below.refl _ _) _⟩

theorem num126 (g : Nat) (va vb : Value) (w : World) (h : w.heap[g]? = some (.cells #[.bool false, va, .bool false, vb] 165 (0, 0))) :
    Calls Tryz.prog 60 #[.pointer (some ⟨g, 0, none⟩)] w fun e w' => e = .returned (.pointer (some ⟨g, 0, none⟩)) ∧ w = w' := by
  have c0 : w.cell? ⟨g, 0, none⟩ = some (.bool false) := blk_cell h 0
  clear h
  go_enter Tryz.func60, Tryz.ntmps60
  go_wp2
  go_ret
  exact ⟨rfl, rfl⟩

theorem den126 (g n c : Nat) (B : Option Addr) (va : Value) (w : World) (hn : 0 < n) (h : w.heap[g]? = some (.cells #[.bool false, va, .bool false, .slice B n c] 165 (0, 0))) :
    Calls Tryz.prog 62 #[.pointer (some ⟨g, 0, none⟩)] w fun e w' => e = .returned (.pointer (some ⟨g, 2, none⟩)) ∧ w = w' := by
  have c0 : w.cell? ⟨g, 0, none⟩ = some (.bool false) := blk_cell h 0
  have c3 : w.cell? ⟨g, 3, none⟩ = some (.slice B n c) := blk_cell h 3
  have n0 : ((n : Int) == 0) = false := by simp; omega
  clear h hn
  go_enter Tryz.func62, Tryz.ntmps62
  go_wp2
  go_ret
  exact ⟨rfl, rfl⟩

theorem bits_at2 (g : Nat) (v : Value) (w : World) (h1 : w.cell? ⟨g, 3, none⟩ = some v) :
    Calls Tryz.prog 92 #[.pointer (some ⟨g, 2, none⟩)] w fun e w' => e = .returned v ∧ w = w' := by
  go_enter Tryz.func92, Tryz.ntmps92
  go_wp2
  go_ret
  exact ⟨rfl, rfl⟩

set_option maxHeartbeats 1000000 in
set_option maxRecDepth 100000 in
theorem plain_at2 (g : Nat) (A : Option Addr) (c : Nat) (xs : List Int) (w : World) (h1 : w.cell? ⟨g, 3, none⟩ = some (.slice A xs.length c)) (hr : Kd.C (Kd.int .u64) w A xs.length xs) (hl : xs.length < 17592186044416) :
    Calls Tryz.prog 61 #[.pointer (some ⟨g, 2, none⟩)] w fun e w' => ∃ v : Value, e = .returned v ∧ Kd.R (Kd.int .u64) 50 w' w.heap.size (fun _ => True) v xs ∧ Below w.heap.size w w' := by
  have HR := Aside0.mk hr
  clear hr
  go_enter Tryz.func61, Tryz.ntmps61
  go_wp2_with fail
  refine (bits_at2 g _ w h1).mono ?_
  rintro e w' ⟨rfl, rfl⟩
  go_wp2_with fail
  go_loopw [3, 9] (fun v i W => ∃ k : Nat, k ≤ xs.length ∧ i = .int .i64 k ∧ Kd.R (Kd.int .u64) 50 W w.heap.size (fun _ => True) v (xs.take k) ∧ Below w.heap.size w W) (fun _ i _ => xs.length - (intOf i).toNat)
  case atStart => exact ⟨0, by omega, rfl, Kd.R_nil _ _ _ _ _, Below.refl _ _⟩
  case round =>
    obtain ⟨k, hk, rfl, HO, HB⟩ := hrel
    have HO := Aside0.mk HO
    have HB := Aside0.mk HB
    by_cases hlt : k < xs.length
    · have hlt' : (k : Int) < xs.length := by omega
      obtain ⟨ad, rfl, hcell⟩ := C_at (Kd.C_below HR.out HB.out) k hlt
      have HT : Hid (xs.take (k + 1) = xs.take k ++ [xs.getD k 0]) := take_snoc xs k hlt
      obtain ⟨x, hx⟩ : ∃ x, xs.getD k 0 = x := ⟨_, rfl⟩
      rw [hx] at hcell HT
      clear hx
      have hll : (xs.take k).length ≤ k := List.length_take_le _ _
      go_wp2_with ((with_reducible refine gate_builtin (b := .append) (xs := #[.tmp 13, .tmp 15]) rfl ?_); at_builtin; refine Kd.R_append (Kd.int .u64) (w0 := w) w.heap.size rfl (.tmp 13) (.tmp 15) 22 50 (.int .u64 0) 8 rfl Tryz.underlying22 info50 rfl (by decide) (by omega) u3 (xs.take k) x [.int .u64 x] (fun _ => True) (fun _ => False) rfl rfl ?aP (fun _ hk => hk.elim) ?aF ?aO ?aB ?aS ?aL ?_; (case aP => exact rfl); (case aB => exact HB.out); (case aF => exact (fun _ _ => trivial)); (case aO => exact HO.out); (case aS => exact below_size HB.out); (case aL => omega); intro v6 w6 ho hb hg hat; have HO6 := Aside0.mk ho; have HB6 := Aside0.mk hb; clear ho hb hg hat)
      go_roundw
      case rel => exact ⟨k + 1, by omega, by go_num, by rw [HT.out]; exact HO6.out, HB6.out⟩
      case measure => simp [intOf]; omega
    · obtain rfl : k = xs.length := by omega
      go_wp2_with fail
      go_ret
      rw [List.take_length] at HO
      exact ⟨_, rfl, HO.out, HB.out⟩

theorem plain_wd2 (g : Nat) (va v : Value) (S : Nat → Prop) (xs : List Int) (w : World) (hbk : w.heap[g]? = some (.cells #[.bool false, va, .bool false, v] 165 (0, 0))) (hv : Wd S w v xs) (hl : xs.length < 17592186044416) :
    Calls Tryz.prog 61 #[.pointer (some ⟨g, 2, none⟩)] w fun e w' => ∃ u : Value, e = .returned u ∧ Wd (fun k => w.heap.size ≤ k) w' u xs ∧ Below w.heap.size w w' := by
  obtain ⟨A, c, rfl, _, hC, _⟩ := hv
  refine (plain_at2 g A c xs w (blk_cell hbk 3) hC hl).mono ?_
  rintro e w' ⟨u, he, hO, hb⟩
  exact ⟨u, he, Wd_R hO, hb⟩

theorem number_rat (g : Nat) (v vb : Value) (S : Nat → Prop) (xs : List Int) (w : World) (hbk : w.heap[g]? = some (.cells #[.bool false, v, .bool false, vb] 165 (0, 0))) (hv : Wd S w v xs) (hl : xs.length < 17592186044416) :
    Calls Tryz.prog 58 #[.pointer (some ⟨g, 0, none⟩)] w fun e w' => ∃ u : Value, e = .returned (.agg #[.bool false, u]) ∧ Wd (fun k => w.heap.size ≤ k) w' u xs ∧ Below w.heap.size w w' := by
  obtain ⟨A, c, rfl, _, hC, _⟩ := hv
  refine (number_any g false A c xs w (blk_cell hbk 0) (blk_cell hbk 1) hC hl).mono ?_
  rintro e w' ⟨u, he, hO, hb⟩
  have hs : decide (sgn false xs.length < 0) = false := by unfold sgn; split <;> simp
  rw [hs] at he
  exact ⟨u, he, Wd_R hO, hb⟩

set_option maxHeartbeats 1000000 in
set_option maxRecDepth 100000 in
theorem parts126 (g : Nat) (v vb : Value) (S S2 : Nat → Prop) (xs ys : List Int) (w : World) (hbk : w.heap[g]? = some (.cells #[.bool false, v, .bool false, vb] 165 (0, 0))) (hv : Wd S w v xs) (hvb : Wd S2 w vb ys) (hy : 0 < ys.length) (hl : xs.length < 17592186044416) (hl2 : ys.length < 17592186044416) :
    Calls Tryz.prog 40 #[.iface 126 (.agg #[.pointer (some ⟨g, 0, none⟩)])] w fun e w' => ∃ u u2 : Value, e = .returned (.tuple #[.agg #[.bool false, u], u2]) ∧ Wd (fun k => w.heap.size ≤ k) w' u xs ∧ Wd (fun k => w.heap.size ≤ k) w' u2 ys ∧ Below w.heap.size w w' := by
  have t1 := fun W => ta20_118_2 W (.pointer (some ⟨g, 0, none⟩))
  have t2 := fun W => ta20_118_89 W (.pointer (some ⟨g, 0, none⟩))
  have t3 := fun W => ta20_118_118 W (.pointer (some ⟨g, 0, none⟩))
  obtain ⟨W0, hW0⟩ : ∃ W0, W0 = w.alloc (.cells #[.bool false, .slice none 0 0] 24) := ⟨_, rfl⟩
  have hB0 : Below w.heap.size w W0 := by rw [hW0]; exact below_alloc (Below.refl _ _) _
  have hn0 : W0.heap[w.heap.size]? = some (.cells #[.bool false, .slice none 0 0] 24 (0, 0)) := by rw [hW0]; exact heap_alloc_new _ _
  have HB0 := Aside0.mk hB0
  have HN0 := Aside0.mk hn0
  have HBK := Aside0.mk (blk_below hbk hB0)
  have HV := Aside0.mk (Wd_below hv hB0)
  have HVB := Aside0.mk (Wd_below hvb hB0)
  have HL := Aside0.mk (And.intro hl (And.intro hl2 hy))
  have HW0 := Lib.hid hW0
  clear hW0 hB0 hn0 hbk hv hl hvb hl2 hy
  go_enter Tryz.func40, Tryz.ntmps40
  go_wp2_with fail
  rw [← HW0.out]
  refine (val126 g W0).mono ?_
  rintro e w1 ⟨rfl, hb1⟩
  have HB1 := Aside0.mk (below_step HB0.out hb1)
  have HN1 := Aside0.mk (blk_below HN0.out hb1)
  have HBK1 := Aside0.mk (blk_below HBK.out hb1)
  have HV1 := Aside0.mk (Wd_below HV.out hb1)
  have HVB1 := Aside0.mk (Wd_below HVB.out hb1)
  clear hb1
  go_wp2_with fail
  refine (num126 g _ _ _ HBK1.out).mono ?_
  rintro e w' ⟨rfl, rfl⟩
  go_wp2_with fail
  refine (number_rat g v vb _ _ _ HBK1.out HV1.out HL.out.1).mono ?_
  rintro e w2 ⟨u, rfl, hu, hb⟩
  obtain ⟨Au, cu, rfl, _⟩ := id hu
  have HU := Aside0.mk hu
  have HB2 := Aside0.mk (below_step HB1.out hb)
  have HN2 := Aside0.mk (blk_below HN1.out hb)
  have HBK2 := Aside0.mk (blk_below HBK1.out hb)
  have HVB2 := Aside0.mk (Wd_below HVB1.out hb)
  clear hu hb
  obtain ⟨Bb, cb, hvbe, _⟩ := id HVB2.out
  have HBK3 := HBK2.out
  rw [hvbe] at HBK3
  have HDN := Aside0.mk (den126 g ys.length cb Bb v w2 HL.out.2.2 HBK3)
  clear hvbe HBK3
  go_wp2_with fail
  refine HDN.out.mono ?_
  rintro e w' ⟨rfl, rfl⟩
  go_wp2_with fail
  refine (plain_wd2 g v vb _ _ _ HBK2.out HVB2.out HL.out.2.1).mono ?_
  rintro e w3 ⟨u2, rfl, hu2, hb⟩
  obtain ⟨Au2, cu2, rfl, _⟩ := id hu2
  have HU2 := Aside0.mk hu2
  have HU3 := Aside0.mk (Wd_below HU.out hb)
  have HB3 := Aside0.mk (below_step HB2.out hb)
  have hn3 := blk_below HN2.out hb
  have hc0 : w3.cell? ⟨w.heap.size, 0, none⟩ = some (.bool false) := blk_cell hn3 0
  have hc1 : w3.cell? ⟨w.heap.size, 1, none⟩ = some (.slice none 0 0) := blk_cell hn3 1
  have hf0 : w3.frozen? ⟨w.heap.size, 0, none⟩ = false := blk_frozen hn3 0
  have hf1 : w3.frozen? ⟨w.heap.size, 1, none⟩ = false := blk_frozen hn3 1
  have HN3 := Aside0.mk hn3
  clear hu2 hb hn3
  go_wp2_with fail
  refine bodyPost_ret (results_ct rfl _ _ w.heap.size 24 #[.bool false, .slice Au xs.length cu] (0, 0) _ rfl (blk_put (cs := #[.bool false, .slice none 0 0]) (blk_put (cs := #[.bool false, .slice none 0 0]) HN3.out 0 _ rfl) 1 _ rfl) Tryz.underlying24 rfl (by kernel_rfl)) rfl ?_
  have hs1 : w.heap.size < w1.heap.size := blk_lt HN1.out
  have hs2 : w.heap.size < w2.heap.size := blk_lt HN2.out
  refine ⟨.slice Au xs.length cu, .slice Au2 ys.length cu2, rfl, ?_, ?_, ?_⟩
  · exact Wd_mono (Wd_far (Wd_far HU3.out (by simp; omega) _) (by simp; omega) _) (fun k hk => by omega)
  · exact Wd_mono (Wd_far (Wd_far HU2.out (by simp; omega) _) (by simp; omega) _) (fun k hk => by omega)
  · exact ((HB3.out).setCell (by simp) _).setCell (by simp) _

set_option maxHeartbeats 2000000 in
set_option maxRecDepth 100000 in
theorem told126 (g : Nat) (v vb : Value) (S S2 : Nat → Prop) (xs ys : List Int) (w : World) (hbk : w.heap[g]? = some (.cells #[.bool false, v, .bool false, vb] 165 (0, 0))) (hv : Wd S w v xs) (hvb : Wd S2 w vb ys) (hy : 0 < ys.length) (hl : xs.length < 17592186044416) (hl2 : ys.length < 17592186044416) :
    Calls Tryz.prog 26 #[.iface 126 (.agg #[.pointer (some ⟨g, 0, none⟩)])] w fun e w' => ∃ u u2 : Value, e = .returned (numVal 4 false u u2) ∧ Wd (fun k => w.heap.size ≤ k) w' u xs ∧ Wd (fun k => w.heap.size ≤ k) w' u2 ys ∧ Below w.heap.size w w' := by
  have HBK := Aside0.mk hbk
  have HV := Aside0.mk hv
  have HXL := Aside0.mk hl
  have HV2 := Aside0.mk hvb
  have HXL2 := Aside0.mk (And.intro hy hl2)
  clear hbk hv hl hvb hy hl2
  go_enter Tryz.func26, Tryz.ntmps26
  go_wp2_with fail
  refine (kind126 g _).mono ?_
  rintro e w' ⟨rfl, rfl⟩
  go_wp2_with fail
  refine (kind126 g _).mono ?_
  rintro e w' ⟨rfl, rfl⟩
  go_wp2_with fail
  obtain ⟨W0, hW0⟩ : ∃ W0, W0 = (((w.alloc (.cells #[.int .i64 0, .bool false, .string ⟨#[]⟩, .bool false, .slice none 0 0, .slice none 0 0, .bool false, .slice none 0 0, .slice none 0 0] 26)).alloc (.cells #[.pointer (some ⟨g, 0, none⟩)] 126)).alloc (.cells #[.int .i64 4, .bool false, .string ⟨#[]⟩, .bool false, .slice none 0 0, .slice none 0 0, .bool false, .slice none 0 0, .slice none 0 0] 26)).alloc (.cells #[.pointer (some ⟨g, 0, none⟩)] 126) := ⟨_, rfl⟩
  have hn0 : W0.heap[w.heap.size]? = some (.cells #[.int .i64 0, .bool false, .string ⟨#[]⟩, .bool false, .slice none 0 0, .slice none 0 0, .bool false, .slice none 0 0, .slice none 0 0] 26 (0, 0)) := by rw [hW0]; exact blk_alloc (blk_alloc (blk_alloc (heap_alloc_new _ _) _) _) _
  have hn1 : W0.heap[w.heap.size + 2]? = some (.cells #[.int .i64 4, .bool false, .string ⟨#[]⟩, .bool false, .slice none 0 0, .slice none 0 0, .bool false, .slice none 0 0, .slice none 0 0] 26 (0, 0)) := by rw [hW0]; exact blk_alloc (by simpa using heap_alloc_new ((w.alloc (.cells #[.int .i64 0, .bool false, .string ⟨#[]⟩, .bool false, .slice none 0 0, .slice none 0 0, .bool false, .slice none 0 0, .slice none 0 0] 26)).alloc (.cells #[.pointer (some ⟨g, 0, none⟩)] 126)) (.cells #[.int .i64 4, .bool false, .string ⟨#[]⟩, .bool false, .slice none 0 0, .slice none 0 0, .bool false, .slice none 0 0, .slice none 0 0] 26)) _
  have hB0 : Below w.heap.size w W0 := by rw [hW0]; exact below_alloc (below_alloc (below_alloc (below_alloc (Below.refl _ _) _) _) _) _
  rw [← hW0]
  clear hW0
  refine (parts126 g v vb S S2 xs ys W0 (blk_below HBK.out hB0) (Wd_below HV.out hB0) (Wd_below HV2.out hB0) HXL2.out.1 HXL.out HXL2.out.2).mono ?_
  rintro e w1 ⟨u, u2, rfl, hu, hu2, hb⟩
  obtain ⟨A, c, rfl, _⟩ := id hu
  obtain ⟨B, d, rfl, _⟩ := id hu2
  have HU2 := Aside0.mk hu2
  clear hu2
  have HU := Aside0.mk hu
  have HB := Aside0.mk (below_step hB0 hb)
  have HS := Aside0.mk hB0.size
  have hn2 := blk_below hn0 hb
  have hn3 := blk_below hn1 hb
  have HN2 := Aside0.mk hn2
  have HN3 := Aside0.mk hn3
  have HL := Aside0.mk (blk_lt hn1)
  clear hu hb hn0 hn1 hB0
  have ac0 : w1.cell? ⟨w.heap.size, 0, none⟩ = some (.int .i64 0) := blk_cell HN2.out 0
  have af0 : w1.frozen? ⟨w.heap.size, 0, none⟩ = false := blk_frozen HN2.out 0
  have ac1 : w1.cell? ⟨w.heap.size, 1, none⟩ = some (.bool false) := blk_cell HN2.out 1
  have af1 : w1.frozen? ⟨w.heap.size, 1, none⟩ = false := blk_frozen HN2.out 1
  have ac2 : w1.cell? ⟨w.heap.size, 2, none⟩ = some (.string ⟨#[]⟩) := blk_cell HN2.out 2
  have af2 : w1.frozen? ⟨w.heap.size, 2, none⟩ = false := blk_frozen HN2.out 2
  have ac3 : w1.cell? ⟨w.heap.size, 3, none⟩ = some (.bool false) := blk_cell HN2.out 3
  have af3 : w1.frozen? ⟨w.heap.size, 3, none⟩ = false := blk_frozen HN2.out 3
  have ac4 : w1.cell? ⟨w.heap.size, 4, none⟩ = some (.slice none 0 0) := blk_cell HN2.out 4
  have af4 : w1.frozen? ⟨w.heap.size, 4, none⟩ = false := blk_frozen HN2.out 4
  have ac5 : w1.cell? ⟨w.heap.size, 5, none⟩ = some (.slice none 0 0) := blk_cell HN2.out 5
  have af5 : w1.frozen? ⟨w.heap.size, 5, none⟩ = false := blk_frozen HN2.out 5
  have ac6 : w1.cell? ⟨w.heap.size, 6, none⟩ = some (.bool false) := blk_cell HN2.out 6
  have af6 : w1.frozen? ⟨w.heap.size, 6, none⟩ = false := blk_frozen HN2.out 6
  have ac7 : w1.cell? ⟨w.heap.size, 7, none⟩ = some (.slice none 0 0) := blk_cell HN2.out 7
  have af7 : w1.frozen? ⟨w.heap.size, 7, none⟩ = false := blk_frozen HN2.out 7
  have ac8 : w1.cell? ⟨w.heap.size, 8, none⟩ = some (.slice none 0 0) := blk_cell HN2.out 8
  have af8 : w1.frozen? ⟨w.heap.size, 8, none⟩ = false := blk_frozen HN2.out 8
  have bc0 : w1.cell? ⟨w.heap.size + 2, 0, none⟩ = some (.int .i64 4) := blk_cell HN3.out 0
  have bf0 : w1.frozen? ⟨w.heap.size + 2, 0, none⟩ = false := blk_frozen HN3.out 0
  have bc1 : w1.cell? ⟨w.heap.size + 2, 1, none⟩ = some (.bool false) := blk_cell HN3.out 1
  have bf1 : w1.frozen? ⟨w.heap.size + 2, 1, none⟩ = false := blk_frozen HN3.out 1
  have bc2 : w1.cell? ⟨w.heap.size + 2, 2, none⟩ = some (.string ⟨#[]⟩) := blk_cell HN3.out 2
  have bf2 : w1.frozen? ⟨w.heap.size + 2, 2, none⟩ = false := blk_frozen HN3.out 2
  have bc3 : w1.cell? ⟨w.heap.size + 2, 3, none⟩ = some (.bool false) := blk_cell HN3.out 3
  have bf3 : w1.frozen? ⟨w.heap.size + 2, 3, none⟩ = false := blk_frozen HN3.out 3
  have bc4 : w1.cell? ⟨w.heap.size + 2, 4, none⟩ = some (.slice none 0 0) := blk_cell HN3.out 4
  have bf4 : w1.frozen? ⟨w.heap.size + 2, 4, none⟩ = false := blk_frozen HN3.out 4
  have bc5 : w1.cell? ⟨w.heap.size + 2, 5, none⟩ = some (.slice none 0 0) := blk_cell HN3.out 5
  have bf5 : w1.frozen? ⟨w.heap.size + 2, 5, none⟩ = false := blk_frozen HN3.out 5
  have bc6 : w1.cell? ⟨w.heap.size + 2, 6, none⟩ = some (.bool false) := blk_cell HN3.out 6
  have bf6 : w1.frozen? ⟨w.heap.size + 2, 6, none⟩ = false := blk_frozen HN3.out 6
  have bc7 : w1.cell? ⟨w.heap.size + 2, 7, none⟩ = some (.slice none 0 0) := blk_cell HN3.out 7
  have bf7 : w1.frozen? ⟨w.heap.size + 2, 7, none⟩ = false := blk_frozen HN3.out 7
  have bc8 : w1.cell? ⟨w.heap.size + 2, 8, none⟩ = some (.slice none 0 0) := blk_cell HN3.out 8
  have bf8 : w1.frozen? ⟨w.heap.size + 2, 8, none⟩ = false := blk_frozen HN3.out 8
  clear hn2 hn3
  go_wp2_with fail
  refine bodyPost_ret (results_cell_row rfl _ _ w.heap.size 26 #[.int .i64 4, .bool false, .string ⟨#[]⟩, .bool false, .slice A xs.length c, .slice B ys.length d, .bool false, .slice none 0 0, .slice none 0 0] (0, 0) _ rfl (blk_put (cs := #[.int .i64 4, .bool false, .string ⟨#[]⟩, .bool false, .slice A xs.length c, .slice B ys.length d, .bool false, .slice none 0 0, .slice none 0 0]) (blk_put (cs := #[.int .i64 4, .bool false, .string ⟨#[]⟩, .bool false, .slice A xs.length c, .slice B ys.length d, .bool false, .slice none 0 0, .slice none 0 0]) (blk_put (cs := #[.int .i64 4, .bool false, .string ⟨#[]⟩, .bool false, .slice A xs.length c, .slice B ys.length d, .bool false, .slice none 0 0, .slice none 0 0]) (blk_put (cs := #[.int .i64 4, .bool false, .string ⟨#[]⟩, .bool false, .slice A xs.length c, .slice none 0 0, .bool false, .slice none 0 0, .slice none 0 0]) (blk_put (cs := #[.int .i64 4, .bool false, .string ⟨#[]⟩, .bool false, .slice none 0 0, .slice none 0 0, .bool false, .slice none 0 0, .slice none 0 0]) (blk_put (cs := #[.int .i64 4, .bool false, .string ⟨#[]⟩, .bool false, .slice none 0 0, .slice none 0 0, .bool false, .slice none 0 0, .slice none 0 0]) (blk_put (cs := #[.int .i64 4, .bool false, .string ⟨#[]⟩, .bool false, .slice none 0 0, .slice none 0 0, .bool false, .slice none 0 0, .slice none 0 0]) (blk_put (cs := #[.int .i64 4, .bool false, .string ⟨#[]⟩, .bool false, .slice none 0 0, .slice none 0 0, .bool false, .slice none 0 0, .slice none 0 0]) (blk_put (cs := #[.int .i64 0, .bool false, .string ⟨#[]⟩, .bool false, .slice none 0 0, .slice none 0 0, .bool false, .slice none 0 0, .slice none 0 0]) (blk_far (p := ⟨w.heap.size + 2, 5, none⟩) (blk_far (p := ⟨w.heap.size + 2, 4, none⟩) (blk_far (p := ⟨w.heap.size + 2, 3, none⟩) HN2.out (by simp) _) (by simp) _) (by simp) _) 0 _ rfl) 1 _ rfl) 2 _ rfl) 3 _ rfl) 4 _ rfl) 5 _ rfl) 6 _ rfl) 7 _ rfl) 8 _ rfl) Tryz.underlying26 rfl (by kernel_rfl)) rfl ?_
  have hlt := HL.out
  refine ⟨.slice A xs.length c, .slice B ys.length d, rfl, ?_, ?_, ?_⟩
  · refine Wd_mono (S := fun k => W0.heap.size ≤ k) ?_ (fun k hk => Nat.le_trans HS.out hk)
    repeat refine Wd_far ?_ (by simp; omega) _
    exact HU.out
  · refine Wd_mono (S := fun k => W0.heap.size ≤ k) ?_ (fun k hk => Nat.le_trans HS.out hk)
    repeat refine Wd_far ?_ (by simp; omega) _
    exact HU2.out
  · repeat refine Below.setCell ?_ (by first | (simp; done) | (simp; omega)) _
    exact HB.out

end Go.Proofs.YtgpoplfgngiilaaGreatDoor
