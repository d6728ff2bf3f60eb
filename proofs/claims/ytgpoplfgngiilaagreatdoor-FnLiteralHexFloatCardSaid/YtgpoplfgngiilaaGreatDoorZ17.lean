/- Literal of package impl at a literal that comes to a fraction. makeFloatFromLiteral and MakeFromLiteral(FLOAT), out of what SetString of a Float and of a Rat come to. Functions of the program as Lean functions, and that the Go code comes to their answers (the kit's print.py wrote it; cut into this file by pieces.py): bigall_zzIndex. zzIndex over a text without a slash. -/
import Derived.Test.YtgpoplfgngiilaaGreatDoorZ03
import Derived.Test.YtgpoplfgngiilaaGreatDoorZ06
import Derived.Test.YtgpoplfgngiilaaGreatDoorZ16
import Derived.Lib.Strings
set_option linter.unusedVariables false
set_option linter.unusedSimpArgs false
namespace Go.Proofs.YtgpoplfgngiilaaGreatDoor
open Go.RowKit Go.Proofs.YtgpoplfgngiilaaGreatDoorW.PrintWords PAll Pl

set_option maxHeartbeats 2000000 in
set_option maxRecDepth 100000 in
/-- Literal, out of what MakeFromLiteral and told come to. -/
theorem literal_of3 (s : ByteArray) (tok : Nat) (ht : tok < 5) (w : World) (R1 : Value → World → Prop) (k : Int) (neg : Bool) (Q : World → Value → Value → Prop)
    (h27 : ∀ W : World, Below w.heap.size w W → w.heap.size + 2 ≤ W.heap.size → Calls Tryz.prog 27 #[.string s, .int .i64 (5 + tok), .int .u64 0] W fun e w' => ∃ X, e = .returned X ∧ Below W.heap.size W w' ∧ R1 X w')
    (h26 : ∀ (X : Value) (W : World), w.heap.size + 2 ≤ W.heap.size → R1 X W → Calls Tryz.prog 26 #[X] W fun e w' => ∃ A n c A2 n2 c2, e = .returned (numVal k neg (.slice A n c) (.slice A2 n2 c2)) ∧ Q w' (.slice A n c) (.slice A2 n2 c2) ∧ Below W.heap.size W w')
    (hQ : ∀ (W : World) (i : Nat) (u v v2 : Value), Q W v v2 → Q (W.setCell ⟨w.heap.size, i, none⟩ u) v v2) :
    Calls Tryz.prog 11 #[.string s, .int .i64 tok] w fun e w' => ∃ A n c A2 n2 c2, e = .returned (numVal k neg (.slice A n c) (.slice A2 n2 c2)) ∧ Q w' (.slice A n c) (.slice A2 n2 c2) ∧ Below w.heap.size w w' := by
  have H27 := Aside0.mk h27
  have H26 := Aside0.mk h26
  have HQ := Aside0.mk hQ
  clear h27 h26 hQ
  have ht' : (tok : Int) < 5 := by omega
  have hneg : decide ((tok : Int) < 0) = false := by simp
  have cs : tok = 0 ∨ tok = 1 ∨ tok = 2 ∨ tok = 3 ∨ tok = 4 := by omega
  rcases cs with rfl | rfl | rfl | rfl | rfl
  all_goals
    go_enter Tryz.func11, Tryz.ntmps11
    go_wp2_with fail
    obtain ⟨W0, hW0⟩ : ∃ W0, W0 = (w.alloc (.cells #[.int .i64 0, .bool false, .string ⟨#[]⟩, .bool false, .slice none 0 0, .slice none 0 0, .bool false, .slice none 0 0, .slice none 0 0] 26)).alloc (.cells #[.int .i64 5, .int .i64 6, .int .i64 7, .int .i64 8, .int .i64 9] 63) := ⟨_, rfl⟩
    rw [← hW0]
    have hn0 : W0.heap[w.heap.size]? = some (.cells #[.int .i64 0, .bool false, .string ⟨#[]⟩, .bool false, .slice none 0 0, .slice none 0 0, .bool false, .slice none 0 0, .slice none 0 0] 26 (0, 0)) := by rw [hW0]; exact blk_alloc (heap_alloc_new _ _) _
    have hB0 : Below w.heap.size w W0 := by rw [hW0]; exact below_alloc (below_alloc (Below.refl _ _) _) _
    have hz0 : w.heap.size + 2 ≤ W0.heap.size := by rw [hW0]; simp
    clear hW0
    refine (H27.out W0 hB0 hz0).mono ?_
    rintro e w1 ⟨X, rfl, hb1, hr1⟩
    have hz1 : w.heap.size + 2 ≤ w1.heap.size := Nat.le_trans hz0 hb1.size
    have HN1 := Aside0.mk (blk_below hn0 hb1)
    have HB1 := Aside0.mk (below_step hB0 hb1)
    have HR1 := Aside0.mk hr1
    have HZ1 := Aside0.mk hz1
    clear hn0 hB0 hz0 hb1 hr1 hz1
    go_wp2_with fail
    refine (H26.out X w1 HZ1.out HR1.out).mono ?_
    rintro e w2 ⟨A, n, c, A2, n2, c2, rfl, hq, hb2⟩
    unfold numVal
    have HN2 := Aside0.mk (blk_below HN1.out hb2)
    have HB2 := Aside0.mk (below_step HB1.out hb2)
    have HQ2 := Aside0.mk hq
    clear hq hb2
    have ac0 : w2.cell? ⟨w.heap.size, 0, none⟩ = some (.int .i64 0) := blk_cell HN2.out 0
    have af0 : w2.frozen? ⟨w.heap.size, 0, none⟩ = false := blk_frozen HN2.out 0
    have ac1 : w2.cell? ⟨w.heap.size, 1, none⟩ = some (.bool false) := blk_cell HN2.out 1
    have af1 : w2.frozen? ⟨w.heap.size, 1, none⟩ = false := blk_frozen HN2.out 1
    have ac2 : w2.cell? ⟨w.heap.size, 2, none⟩ = some (.string ⟨#[]⟩) := blk_cell HN2.out 2
    have af2 : w2.frozen? ⟨w.heap.size, 2, none⟩ = false := blk_frozen HN2.out 2
    have ac3 : w2.cell? ⟨w.heap.size, 3, none⟩ = some (.bool false) := blk_cell HN2.out 3
    have af3 : w2.frozen? ⟨w.heap.size, 3, none⟩ = false := blk_frozen HN2.out 3
    have ac4 : w2.cell? ⟨w.heap.size, 4, none⟩ = some (.slice none 0 0) := blk_cell HN2.out 4
    have af4 : w2.frozen? ⟨w.heap.size, 4, none⟩ = false := blk_frozen HN2.out 4
    have ac5 : w2.cell? ⟨w.heap.size, 5, none⟩ = some (.slice none 0 0) := blk_cell HN2.out 5
    have af5 : w2.frozen? ⟨w.heap.size, 5, none⟩ = false := blk_frozen HN2.out 5
    have ac6 : w2.cell? ⟨w.heap.size, 6, none⟩ = some (.bool false) := blk_cell HN2.out 6
    have af6 : w2.frozen? ⟨w.heap.size, 6, none⟩ = false := blk_frozen HN2.out 6
    have ac7 : w2.cell? ⟨w.heap.size, 7, none⟩ = some (.slice none 0 0) := blk_cell HN2.out 7
    have af7 : w2.frozen? ⟨w.heap.size, 7, none⟩ = false := blk_frozen HN2.out 7
    have ac8 : w2.cell? ⟨w.heap.size, 8, none⟩ = some (.slice none 0 0) := blk_cell HN2.out 8
    have af8 : w2.frozen? ⟨w.heap.size, 8, none⟩ = false := blk_frozen HN2.out 8
    go_wp2_with fail
    refine bodyPost_ret (results_cell_row rfl _ _ w.heap.size 26 #[.int .i64 k, .bool false, .string ⟨#[]⟩, .bool neg, .slice A n c, .slice A2 n2 c2, .bool false, .slice none 0 0, .slice none 0 0] (0, 0) _ rfl (blk_put (cs := #[.int .i64 k, .bool false, .string ⟨#[]⟩, .bool neg, .slice A n c, .slice A2 n2 c2, .bool false, .slice none 0 0, .slice none 0 0]) (blk_put (cs := #[.int .i64 k, .bool false, .string ⟨#[]⟩, .bool neg, .slice A n c, .slice A2 n2 c2, .bool false, .slice none 0 0, .slice none 0 0]) (blk_put (cs := #[.int .i64 k, .bool false, .string ⟨#[]⟩, .bool neg, .slice A n c, .slice A2 n2 c2, .bool false, .slice none 0 0, .slice none 0 0]) (blk_put (cs := #[.int .i64 k, .bool false, .string ⟨#[]⟩, .bool neg, .slice A n c, .slice none 0 0, .bool false, .slice none 0 0, .slice none 0 0]) (blk_put (cs := #[.int .i64 k, .bool false, .string ⟨#[]⟩, .bool neg, .slice none 0 0, .slice none 0 0, .bool false, .slice none 0 0, .slice none 0 0]) (blk_put (cs := #[.int .i64 k, .bool false, .string ⟨#[]⟩, .bool false, .slice none 0 0, .slice none 0 0, .bool false, .slice none 0 0, .slice none 0 0]) (blk_put (cs := #[.int .i64 k, .bool false, .string ⟨#[]⟩, .bool false, .slice none 0 0, .slice none 0 0, .bool false, .slice none 0 0, .slice none 0 0]) (blk_put (cs := #[.int .i64 k, .bool false, .string ⟨#[]⟩, .bool false, .slice none 0 0, .slice none 0 0, .bool false, .slice none 0 0, .slice none 0 0]) (blk_put (cs := #[.int .i64 0, .bool false, .string ⟨#[]⟩, .bool false, .slice none 0 0, .slice none 0 0, .bool false, .slice none 0 0, .slice none 0 0]) HN2.out 0 _ rfl) 1 _ rfl) 2 _ rfl) 3 _ rfl) 4 _ rfl) 5 _ rfl) 6 _ rfl) 7 _ rfl) 8 _ rfl) Tryz.underlying26 rfl (by kernel_rfl)) rfl ?_
    refine ⟨A, n, c, A2, n2, c2, rfl, ?_, ?_⟩
    · repeat refine HQ.out _ _ _ _ _ ?_
      exact HQ2.out
    · repeat refine Below.setCell ?_ (by simp) _
      exact HB2.out

theorem Nt_words {w : World} {base : Nat} {v : Value} {xs : List Int} (h : Nt w base v xs) : Wd (fun k => base ≤ k) w v xs := by
  obtain ⟨A, c, rfl, hr⟩ := own_reads (k := .u64) h
  refine ⟨A, c, rfl, ?_, ?_, ?_⟩
  · rcases h.2 with ⟨e, h0⟩ | ⟨g, cap, cur, e, _, _, hn, _⟩
    · injection e with e1 e2 e3; omega
    · injection e with e1 e2 e3; omega
  · rcases List.eq_nil_or_concat xs with h0 | ⟨ys, y, h0⟩
    · subst h0; exact C_nil _ _ _
    · obtain ⟨ad, rfl, hc⟩ := hr.2.2 (by rw [h0]; simp)
      exact C_mk hr.2.1 (fun i hi => hc i hi)
  · intro ad ha
    subst ha
    exact own_base h _ rfl

/-- The package's value of a fraction. -/
def LitF (n d : Nat) (X : Value) (w : World) : Prop :=
  ∃ g a b, X = .iface 126 (.agg #[.pointer (some ⟨g, 0, none⟩)]) ∧ w.heap[g]? = some (.cells #[.bool false, a, .bool false, b] 165 (0, 0)) ∧ Nt w 0 a (figs 18446744073709551616 n) ∧ Nt w 0 b (figs 18446744073709551616 d)

/-- What Literal answers: a Value of Kind Float with these words. -/
def LfOk (n d : Nat) (w : World) (e : Ending) (w' : World) : Prop :=
  ∃ A c B c2, e = .returned (numVal 4 false (.slice A (figs 18446744073709551616 n).length c) (.slice B (figs 18446744073709551616 d).length c2)) ∧ (figs 18446744073709551616 n).length ≤ c ∧ (figs 18446744073709551616 d).length ≤ c2 ∧
    Kd.C (Kd.int .u64) w' A (figs 18446744073709551616 n).length (figs 18446744073709551616 n) ∧ Kd.C (Kd.int .u64) w' B (figs 18446744073709551616 d).length (figs 18446744073709551616 d) ∧ Below w.heap.size w w'

theorem lit_float {n d : Nat} {s : ByteArray} (hd : 0 < d) (h1 : (figs 18446744073709551616 n).length < 17592186044416) (h2 : (figs 18446744073709551616 d).length < 17592186044416) (w : World)
    (h27 : ∀ W : World, Below w.heap.size w W → Calls Tryz.prog 27 #[.string s, .int .i64 6, .int .u64 0] W fun e w' => ∃ X, e = .returned X ∧ Below W.heap.size W w' ∧ LitF n d X w') :
    Calls Tryz.prog 11 #[.string s, .int .i64 1] w (LfOk n d w) := by
  have h := literal_of3 s 1 (by decide) w (LitF n d) 4 false
    (fun W x y => Wd (fun k => w.heap.size + 2 ≤ k) W x (figs 18446744073709551616 n) ∧ Wd (fun k => w.heap.size + 2 ≤ k) W y (figs 18446744073709551616 d))
    (fun W hb hl => h27 W hb)
    (fun X W hl hR => by
      obtain ⟨g, a, b, rfl, hbk, hA, hB⟩ := hR
      refine (told126 g a b _ _ _ _ W hbk (Nt_words hA) (Nt_words hB) (List.length_pos_iff.2 (figs_ne (by decide) hd)) h1 h2).mono ?_
      rintro e w' ⟨u, u2, rfl, hu, hu2, hb⟩
      obtain ⟨A, c, rfl, hc, hC, hS⟩ := hu
      obtain ⟨B, c2, rfl, hc2, hC2, hS2⟩ := hu2
      exact ⟨A, _, c, B, _, c2, rfl, ⟨⟨A, c, rfl, hc, hC, fun ad ha => Nat.le_trans hl (hS ad ha)⟩, ⟨B, c2, rfl, hc2, hC2, fun ad ha => Nat.le_trans hl (hS2 ad ha)⟩⟩, hb⟩)
    (fun W i u x y hq => ⟨Wd_far (p := ⟨w.heap.size, i, none⟩) hq.1 (by simp) u, Wd_far (p := ⟨w.heap.size, i, none⟩) hq.2 (by simp) u⟩)
  refine h.mono ?_
  rintro e w' ⟨A, n', c, A2, n2, c2, rfl, ⟨⟨A', c', he, hc, hC, hS⟩, ⟨B', d', he2, hc2, hC2, hS2⟩⟩, hb⟩
  cases he
  cases he2
  exact ⟨_, _, _, _, rfl, hc, hc2, hC, hC2, hb⟩
end Go.Proofs.YtgpoplfgngiilaaGreatDoor

namespace Go.Proofs.YtgpoplfgngiilaaGreatDoor
open Go.RowKit Go.Proofs.YtgpoplfgngiilaaGreatDoorW.PrintWords PAll Pl

/-- What Rat's SetString leaves: n over d. -/
def RsetOk (n d z : Nat) (w : World) (e : Ending) (w' : World) : Prop :=
  e = .returned (.tuple #[.pointer (some ⟨z, 0, none⟩), .bool true]) ∧ ∃ a b, w'.heap[z]? = some (.cells #[.bool false, a, .bool false, b] 165 (0, 0)) ∧ Nt w' z a (figs 18446744073709551616 n) ∧ Nt w' z b (figs 18446744073709551616 d) ∧ Below z w w'

/-- What makeFloatFromLiteral and MakeFromLiteral answer. -/
def MfF (n d : Nat) (w : World) (e : Ending) (w' : World) : Prop := ∃ X, e = .returned X ∧ Below w.heap.size w w' ∧ LitF n d X w'

set_option maxHeartbeats 4000000 in
set_option maxRecDepth 100000 in
theorem mkFloat_one (n d : Nat) (s : ByteArray) (pa : Addr) (w : World) (hs5 : 5 ≤ s.size) (hs : s.size ≤ 100000) (hev : Eof w pa)
    (hsc : ∀ f g W, 1 < f → f < g → g < W.heap.size → Fk W f 512 0 0 false (.slice none 0 0) 0 → RdAt W g s 0 (-1) → Eof W pa → Calls Tryz.prog 147 #[.pointer (some ⟨f, 0, none⟩), .iface 133 (.pointer (some ⟨g, 0, none⟩)), .int .i64 0] W (FsOk (fun fo x => fo = 1 ∧ -4096 < x ∧ x < 4096) f g s W))
    (hset : ∀ z W, 1 < z → W.heap[z]? = some (.cells #[.bool false, .slice none 0 0, .bool false, .slice none 0 0] 165 (0, 0)) → Eof W pa → Calls Tryz.prog 73 #[.pointer (some ⟨z, 0, none⟩), .string s] W (RsetOk n d z W)) :
    Calls Tryz.prog 46 #[.string s] w (MfF n d w) := by
  have hl1 : 1 < w.heap.size := World.block_lt_of_cell? _ _ hev
  have HNF := Lib.hid (newFloat_any w)
  have HSC := Lib.hid hsc
  have HST := Lib.hid hset
  have HEV := Aside0.mk hev
  have HSZ := Aside0.mk (And.intro hs5 (And.intro hs hl1))
  clear hs5 hs hev hsc hset hl1
  go_enter Tryz.func46, Tryz.ntmps46
  go_wp2_with fail
  refine HNF.out.mono ?_
  rintro e w1 ⟨rfl, hF, hb1⟩
  have he1 : Eof w1 pa := HEV.out.below hb1 HSZ.out.2.2
  have HFS := Aside0.mk (flSetString _ w.heap.size s pa w1 HSZ.out.1 HSZ.out.2.1 hF HSZ.out.2.2 he1 (fun g W => HSC.out w.heap.size g W HSZ.out.2.2))
  have HB1 := Aside0.mk hb1
  have HE1 := Aside0.mk he1
  clear hF hb1 he1 HSC HNF
  go_wp2_with fail
  refine HFS.out.mono ?_
  rintro e w2 ⟨rfl, ⟨fo, m, x, ⟨rfl, hx0, hx1⟩, hk⟩, hb2⟩
  have HSM := Aside0.mk (smallFloat_one w.heap.size _ _ _ m x w2 hk ⟨hx0, hx1⟩)
  have HSG := Aside0.mk (sign_one w.heap.size _ _ m x w2 hk)
  have he2 : Eof w2 pa := HE1.out.below hb2 HSZ.out.2.2
  have HB2 := Aside0.mk (HB1.out.trans hb2)
  have hl2 : 1 < w2.heap.size := World.block_lt_of_cell? _ _ he2
  have hb3 := below_alloc (Below.refl w2.heap.size w2) (.cells #[.bool false, .slice none 0 0, .bool false, .slice none 0 0] 165)
  have HRS := Aside0.mk (HST.out w2.heap.size _ hl2 (heap_alloc_new w2 (.cells #[.bool false, .slice none 0 0, .bool false, .slice none 0 0] 165)) (he2.below hb3 hl2))
  have HNR := Aside0.mk (newRat_any w2)
  have HB3 := Aside0.mk (HB2.out.trans (hb3.mono HB2.out.size))
  clear hx0 hx1 hk hb2 he2 hl2 hb3 HFS HST
  go_wp2_with fail
  refine HSM.out.mono ?_
  rintro e w' ⟨rfl, rfl⟩
  go_wp2_with fail
  refine HSG.out.mono ?_
  rintro e w' ⟨rfl, rfl⟩
  go_wp2_with fail
  refine HNR.out.mono ?_
  rintro e w' ⟨rfl, rfl⟩
  go_wp2_with fail
  refine HRS.out.mono ?_
  rintro e w4 ⟨rfl, a, b, hz, hA, hB, hb4⟩
  have H4 := Aside0.mk (And.intro hz (And.intro hA (And.intro hB hb4)))
  clear hz hA hB hb4
  go_wp2_with fail
  refine bodyPost_ret (results_tmp rfl _ _ _) rfl ?_
  exact ⟨_, rfl, HB3.out.trans (H4.out.2.2.2.mono HB2.out.size), _, a, b, rfl, H4.out.1, Nt_low H4.out.2.1 (Nat.zero_le _), Nt_low H4.out.2.2.1 (Nat.zero_le _)⟩

set_option maxHeartbeats 4000000 in
set_option maxRecDepth 100000 in
theorem mkFloat_zero (n d : Nat) (s : ByteArray) (pa : Addr) (w : World) (hs5 : 5 ≤ s.size) (hs : s.size ≤ 100000) (hev : Eof w pa)
    (hsc : ∀ f g W, 1 < f → f < g → g < W.heap.size → Fk W f 512 0 0 false (.slice none 0 0) 0 → RdAt W g s 0 (-1) → Eof W pa → Calls Tryz.prog 147 #[.pointer (some ⟨f, 0, none⟩), .iface 133 (.pointer (some ⟨g, 0, none⟩)), .int .i64 0] W (FsOk (fun fo x => fo = 0) f g s W))
    (hset : ∀ z W, 1 < z → W.heap[z]? = some (.cells #[.bool false, .slice none 0 0, .bool false, .slice none 0 0] 165 (0, 0)) → Eof W pa → Calls Tryz.prog 73 #[.pointer (some ⟨z, 0, none⟩), .string ⟨#[48]⟩] W (RsetOk n d z W)) :
    Calls Tryz.prog 46 #[.string s] w (MfF n d w) := by
  have hl1 : 1 < w.heap.size := World.block_lt_of_cell? _ _ hev
  have HNF := Lib.hid (newFloat_any w)
  have HSC := Lib.hid hsc
  have HST := Lib.hid hset
  have HEV := Aside0.mk hev
  have HSZ := Aside0.mk (And.intro hs5 (And.intro hs hl1))
  clear hs5 hs hev hsc hset hl1
  go_enter Tryz.func46, Tryz.ntmps46
  go_wp2_with fail
  refine HNF.out.mono ?_
  rintro e w1 ⟨rfl, hF, hb1⟩
  have he1 : Eof w1 pa := HEV.out.below hb1 HSZ.out.2.2
  have HFS := Aside0.mk (flSetString _ w.heap.size s pa w1 HSZ.out.1 HSZ.out.2.1 hF HSZ.out.2.2 he1 (fun g W => HSC.out w.heap.size g W HSZ.out.2.2))
  have HB1 := Aside0.mk hb1
  have HE1 := Aside0.mk he1
  clear hF hb1 he1 HSC HNF
  go_wp2_with fail
  refine HFS.out.mono ?_
  rintro e w2 ⟨rfl, ⟨fo, m, x, rfl, hk⟩, hb2⟩
  have HSM := Aside0.mk (smallFloat_zero w.heap.size _ _ _ m x w2 hk)
  have HSG := Aside0.mk (sign_zero w.heap.size _ _ _ m x w2 hk)
  have he2 : Eof w2 pa := HE1.out.below hb2 HSZ.out.2.2
  have HB2 := Aside0.mk (HB1.out.trans hb2)
  have hl2 : 1 < w2.heap.size := World.block_lt_of_cell? _ _ he2
  have hb3 := below_alloc (Below.refl w2.heap.size w2) (.cells #[.bool false, .slice none 0 0, .bool false, .slice none 0 0] 165)
  have HRS := Aside0.mk (HST.out w2.heap.size _ hl2 (heap_alloc_new w2 (.cells #[.bool false, .slice none 0 0, .bool false, .slice none 0 0] 165)) (he2.below hb3 hl2))
  have HNR := Aside0.mk (newRat_any w2)
  have HB3 := Aside0.mk (HB2.out.trans (hb3.mono HB2.out.size))
  clear hk hb2 he2 hl2 hb3 HFS HST
  go_wp2_with fail
  refine HSM.out.mono ?_
  rintro e w' ⟨rfl, rfl⟩
  go_wp2_with fail
  refine HSG.out.mono ?_
  rintro e w' ⟨rfl, rfl⟩
  go_wp2_with fail
  refine HNR.out.mono ?_
  rintro e w' ⟨rfl, rfl⟩
  go_wp2_with fail
  refine HRS.out.mono ?_
  rintro e w4 ⟨rfl, a, b, hz, hA, hB, hb4⟩
  have H4 := Aside0.mk (And.intro hz (And.intro hA (And.intro hB hb4)))
  clear hz hA hB hb4
  go_wp2_with fail
  refine bodyPost_ret (results_tmp rfl _ _ _) rfl ?_
  exact ⟨_, rfl, HB3.out.trans (H4.out.2.2.2.mono HB2.out.size), _, a, b, rfl, H4.out.1, Nt_low H4.out.2.1 (Nat.zero_le _), Nt_low H4.out.2.2.1 (Nat.zero_le _)⟩

theorem mfl_float (n d : Nat) (s : ByteArray) (w : World) (hM : Calls Tryz.prog 46 #[.string s] w (MfF n d w)) :
    Calls Tryz.prog 27 #[.string s, .int .i64 6, .int .u64 0] w (MfF n d w) := by
  have HM := Aside0.mk hM
  clear hM
  go_enter Tryz.func27, Tryz.ntmps27
  go_wp2_with fail
  refine HM.out.mono ?_
  rintro e w1 ⟨X, rfl, hb, g, a, b, rfl, h⟩
  have H := Aside0.mk h
  have HB := Aside0.mk hb
  clear h hb
  go_wp2_with fail
  go_ret
  exact ⟨_, rfl, HB.out, g, a, b, rfl, H.out⟩
end Go.Proofs.YtgpoplfgngiilaaGreatDoor

namespace Go.Proofs.YtgpoplfgngiilaaGreatDoor.PAll
open Go.RowKit Go.Proofs.YtgpoplfgngiilaaGreatDoorW.PrintWords Go.Proofs.YtgpoplfgngiilaaGreatDoorW.PrintLast Go.Proofs.YtgpoplfgngiilaaGreatDoorW.PrintMore
attribute [local go_sem] max2_int min2_int max_two min_two max_three min_three max_four min_four   -- for this text's walks alone
/-! ### bigall_zzIndex: function 108 -/
def bigall_zzIndex.l0 : Nat → ByteArray → ByteArray → Int → Option (Int)
  | 0, _, _, _ => none
  | k + 1, x0, x1, x5 => if (wrap64 (x5 + (x1.size : Int))) ≤ (x0.size : Int) then (if 0 ≤ x5 then (if x5 ≤ (wrap64 (x5 + (x1.size : Int))) then (if (x0.extract (x5 : Int).toNat ((wrap64 (x5 + (x1.size : Int))) : Int).toNat).toList = x1.toList then (some x5) else (bigall_zzIndex.l0 k x0 x1 (wrap64 (x5 + 1)))) else (none)) else (none)) else (some (-1))
def bigall_zzIndex.f (k : Nat) (a0 : ByteArray) (a1 : ByteArray) : Option (Int) := bigall_zzIndex.l0 k a0 a1 0
set_option maxHeartbeats 8000000 in
set_option maxRecDepth 100000 in
theorem bigall_zzIndex.calls (k : Nat) (a0 : ByteArray) (a1 : ByteArray) (r : Int) (w : World) (h : bigall_zzIndex.f k a0 a1 = some r) :
    Calls Tryz.prog 108 #[.string a0, .string a1] w fun e w' => e = .returned (.int .i64 r) ∧ Drawn0 w w' := by
  have H : (bigall_zzIndex.l0 k a0 a1 0) = some r := h
  clear h
  have H' := Aside0.mk H
  clear H
  go_enter Tryz.func108, Tryz.ntmps108
  go_wp2
  go_loopg [5] k (fun kq v5 w' => ∃ (x5_1 : Int), v5 = .int .i64 x5_1 ∧ Aside0 (bigall_zzIndex.l0 kq a0 a1 x5_1 = some r) ∧ Aside0 (kq ≤ k) ∧ Drawn0 w w')
  case atStart => exact ⟨(0), (by first | rfl | (simp; done) | (simp [*]; done)), H', ⟨Nat.le_refl _⟩, by repeat (first | exact Drawn0.refl _ | apply Drawn0.step)⟩
  case round =>
    clear H'
    try clear c1
    try clear p2
    obtain ⟨x5_1, rfl, HA, HK1, ⟨m1, rfl⟩⟩ := hrel
    cases gk with
    | zero => exact absurd HA.out (by simp [bigall_zzIndex.l0])
    | succ k1 =>
      have H := HA.out
      clear HA
      simp only [bigall_zzIndex.l0] at H
      by_cases c3 : (wrap64 (x5_1 + (a1.size : Int))) ≤ (a0.size : Int)
      · rw [if_pos c3] at H
        have c3b0 : decide ((wrap64 (x5_1 + (a1.size : Int))) ≤ (a0.size : Int)) = true := decide_eq_true c3
        clear c3
        by_cases c4 : 0 ≤ x5_1
        · rw [if_pos c4] at H
          have c4b0 := eq_true c4
          have c4b1 : decide (0 ≤ x5_1) = true := decide_eq_true c4
          clear c4
          by_cases c5 : x5_1 ≤ (wrap64 (x5_1 + (a1.size : Int)))
          · rw [if_pos c5] at H
            have c5b0 := eq_true c5
            have c5b1 : decide (x5_1 ≤ (wrap64 (x5_1 + (a1.size : Int)))) = true := decide_eq_true c5
            have c6b0 := eq_true (of_decide_eq_true (by first | (with_reducible assumption) | assumption) : (wrap64 (x5_1 + (a1.size : Int))) ≤ (a0.size : Int))
            by_cases c7 : (a0.extract (x5_1 : Int).toNat ((wrap64 (x5_1 + (a1.size : Int))) : Int).toNat).toList = a1.toList
            · rw [if_pos c7] at H
              have c7b0 : ((a0.extract (x5_1 : Int).toNat ((wrap64 (x5_1 + (a1.size : Int))) : Int).toNat).toList == a1.toList) = true := beq_iff_eq.mpr c7
              have c7b1 : ((a0.extract (x5_1 : Int).toNat ((wrap64 (x5_1 + (a1.size : Int))) : Int).toNat).toList != a1.toList) = false := bne_eq_false_iff_eq.mpr c7
              clear c7
              obtain rfl := Option.some.inj H
              go_wp2
              go_ret
              exact ⟨by first | rfl | (simp; done) | (simp [*]; done), by repeat (first | exact Drawn0.refl _ | apply Drawn0.step)⟩
            · rw [if_neg c7] at H
              have c7b0 : ((a0.extract (x5_1 : Int).toNat ((wrap64 (x5_1 + (a1.size : Int))) : Int).toNat).toList == a1.toList) = false := beq_eq_false_iff_ne.mpr c7
              have c7b1 : ((a0.extract (x5_1 : Int).toNat ((wrap64 (x5_1 + (a1.size : Int))) : Int).toNat).toList != a1.toList) = true := bne_iff_ne.mpr c7
              have H' := Aside0.mk H
              clear H
              go_wp2
              go_roundg k1
              case measure => have := HK1.out; omega
              case rel => exact ⟨(wrap64 (x5_1 + 1)), (by first | rfl | (simp; done) | (simp [*]; done)), H', ⟨by have := HK1.out; omega⟩, by repeat (first | exact Drawn0.refl _ | apply Drawn0.step)⟩
          · rw [if_neg c5] at H
            exact absurd H (by simp)
        · rw [if_neg c4] at H
          exact absurd H (by simp)
      · rw [if_neg c3] at H
        have c3b0 : decide ((wrap64 (x5_1 + (a1.size : Int))) ≤ (a0.size : Int)) = false := decide_eq_false c3
        clear c3
        obtain rfl := Option.some.inj H
        go_wp2
        go_ret
        exact ⟨by first | rfl | (simp; done) | (simp [*]; done), by repeat (first | exact Drawn0.refl _ | apply Drawn0.step)⟩

-- NOT PRINTED: function 155 (bigall_nat_rem)

-- NOT PRINTED: function 207 (bigall_nat_montgomery)

-- NOT PRINTED: function 156 (bigall_nat_expNNMontgomery)

-- NOT PRINTED: function 157 (bigall_nat_isPow2)

-- NOT PRINTED: function 210 (bigall_nat_trunc)

-- NOT PRINTED: function 158 (bigall_nat_expNNWindowed)

-- NOT PRINTED: function 211 (bigall_nat_trailingZeroBits)
end Go.Proofs.YtgpoplfgngiilaaGreatDoor.PAll

namespace Go.Proofs.YtgpoplfgngiilaaGreatDoor
open Go.RowKit Go.Proofs.YtgpoplfgngiilaaGreatDoorW.PrintWords PAll Pl

theorem zz_one (s : ByteArray) (i : Nat) (hi : i < s.size) (h : bt s i ≠ 47) : ¬ (s.extract i (i + 1)).toList = (⟨#[47]⟩ : ByteArray).toList := by
  intro e
  rw [Lib.toList_data, Lib.toList_data] at e
  have e2 := congrArg (fun l => l[0]?) e
  simp only [ByteArray.data_extract] at e2
  rw [bt_nat s i hi] at h
  simp [Array.getElem?_extract] at e2
  rw [Array.getElem?_eq_getElem (show i < s.data.size from hi)] at e2
  injection e2 with e3
  apply h
  show ((s.data[i]'hi).toNat : Int) = 47
  rw [e3]
  rfl

theorem zz_l0 (s : ByteArray) (hs : s.size ≤ 100000) (h : ∀ i : Nat, i < s.size → bt s i ≠ 47) : ∀ (d i : Nat), i + d = s.size → bigall_zzIndex.l0 (d + 1) s ⟨#[47]⟩ i = some (-1)
  | 0, i, hi => by
    unfold bigall_zzIndex.l0
    have hw : wrap64 ((i : Int) + ((⟨#[47]⟩ : ByteArray).size : Int)) = i + 1 := by
      show wrap64 ((i : Int) + 1) = i + 1
      exact w64 (by omega) (by omega)
    rw [hw, if_neg (by omega)]
  | d + 1, i, hi => by
    have ih := zz_l0 s hs h d (i + 1) (by omega)
    unfold bigall_zzIndex.l0
    have hw : wrap64 ((i : Int) + ((⟨#[47]⟩ : ByteArray).size : Int)) = i + 1 := by
      show wrap64 ((i : Int) + 1) = i + 1
      exact w64 (by omega) (by omega)
    have hw2 : wrap64 ((i : Int) + 1) = ((i + 1 : Nat) : Int) := by rw [w64 (by omega) (by omega)]; push_cast; rfl
    rw [hw, if_pos (by omega), if_pos (by omega), if_pos (by omega), show ((i : Int) + 1).toNat = i + 1 by omega, Int.toNat_natCast, if_neg (zz_one s i (by omega) (h i (by omega))), hw2]
    exact ih

/-- zzIndex(s, "/") where s has no slash. -/
theorem zz_none (s : ByteArray) (w : World) (hs : s.size ≤ 100000) (h : ∀ i : Nat, i < s.size → bt s i ≠ 47) : Calls Tryz.prog 108 #[.string s, .string ⟨#[47]⟩] w fun e w' => e = .returned (.int .i64 (-1)) ∧ Drawn0 w w' :=
  bigall_zzIndex.calls (s.size + 1) s ⟨#[47]⟩ (-1) w (zz_l0 s hs h s.size 0 (by omega))
end Go.Proofs.YtgpoplfgngiilaaGreatDoor
