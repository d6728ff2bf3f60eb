/- MakeFromLiteral at a literal of a character, and Literal of package impl over it. -/
import Derived.Test.YtgpoplfgngiilaaGreatDoorTl
import Derived.Test.YtgpoplfgngiilaaGreatDoorUq
namespace Go.Proofs.YtgpoplfgngiilaaGreatDoor
open Go.RowKit Go.Proofs.YtgpoplfgngiilaaGreatDoorW.PrintWords PAll

theorem makeInt64_any (x : Int) (w : World) : Calls Tryz.prog 49 #[.int .i64 x] w fun e w' => e = .returned (.iface 88 (.int .i64 x)) ∧ w = w' := by
  go_enter Tryz.func49, Tryz.ntmps49
  go_wp2
  go_ret
  exact ⟨rfl, rfl⟩

set_option maxHeartbeats 2000000 in
set_option maxRecDepth 100000 in
theorem mfl_char (s : ByteArray) (v : Int) (w : World) (hs : 2 ≤ s.size) (hm : (s.size : Int) ≤ 100) (hv0 : 0 ≤ v) (hv1 : v < 2147483648)
    (hu : Calls Tryz.prog 48 #[.string (s.extract 1 (s.size - 1)), .int .u8 39] w (UqOk v w)) :
    Calls Tryz.prog 27 #[.string s, .int .i64 8, .int .u64 0] w fun e w' => e = .returned (.iface 88 (.int .i64 v)) ∧ Below w.heap.size w w' := by
  have HU := Lib.hid hu
  clear hu
  go_enter Tryz.func27, Tryz.ntmps27
  go_wp2_with fail
  refine HU.out.mono ?_
  rintro e w1 ⟨mb, tail, rfl, hb⟩
  have HB := Aside0.mk hb
  clear hb
  go_wp2_with fail
  refine (makeInt64_any v _).mono ?_
  rintro e w' ⟨rfl, rfl⟩
  go_wp2_with fail
  go_ret
  exact ⟨rfl, HB.out⟩

/-- The list of tokens that Literal makes. -/
def toks : Array Value := #[.int .i64 5, .int .i64 6, .int .i64 7, .int .i64 8, .int .i64 9]

set_option maxHeartbeats 2000000 in
set_option maxRecDepth 100000 in
/-- Literal, out of what MakeFromLiteral and told come to. -/
theorem literal_of (s : ByteArray) (tok : Nat) (ht : tok < 5) (X : Value) (w : World) (R1 : World → Prop) (k : Int) (neg : Bool) (Q : World → Value → Value → Prop)
    (h27 : ∀ W : World, Below w.heap.size w W → w.heap.size + 2 ≤ W.heap.size → Calls Tryz.prog 27 #[.string s, .int .i64 (5 + tok), .int .u64 0] W fun e w' => e = .returned X ∧ Below W.heap.size W w' ∧ R1 w')
    (h26 : ∀ W : World, w.heap.size + 2 ≤ W.heap.size → R1 W → Calls Tryz.prog 26 #[X] W fun e w' => ∃ A n c A2 n2 c2, e = .returned (numVal k neg (.slice A n c) (.slice A2 n2 c2)) ∧ Q w' (.slice A n c) (.slice A2 n2 c2) ∧ Below W.heap.size W w')
    (hQ : ∀ (W : World) (i : Nat) (u v v2 : Value), Q W v v2 → Q (W.setCell ⟨w.heap.size, i, none⟩ u) v v2) :
    Calls Tryz.prog 11 #[.string s, .int .i64 tok] w fun e w' => ∃ A n c A2 n2 c2, e = .returned (numVal k neg (.slice A n c) (.slice A2 n2 c2)) ∧ Q w' (.slice A n c) (.slice A2 n2 c2) ∧ Below w.heap.size w w' := by
  have H27 := Aside0.mk h27
  have H26 := Aside0.mk h26
  have HQ := Aside0.mk hQ
  clear h27 h26 hQ
  have ht' : (tok : Int) < 5 := by omega
  have hneg : decide ((tok : Int) < 0) = false := by simp
  have cs : tok = 0 ∨ tok = 1 ∨ tok = 2 ∨ tok = 3 ∨ tok = 4 := by omega
  rcases cs with rfl | rfl | rfl | rfl | rfl
  all_goals
    go_enter Tryz.func11, Tryz.ntmps11
    go_wp2_with fail
    obtain ⟨W0, hW0⟩ : ∃ W0, W0 = (w.alloc (.cells #[.int .i64 0, .bool false, .string ⟨#[]⟩, .bool false, .slice none 0 0, .slice none 0 0, .bool false, .slice none 0 0, .slice none 0 0] 26)).alloc (.cells #[.int .i64 5, .int .i64 6, .int .i64 7, .int .i64 8, .int .i64 9] 63) := ⟨_, rfl⟩
    rw [← hW0]
    have hn0 : W0.heap[w.heap.size]? = some (.cells #[.int .i64 0, .bool false, .string ⟨#[]⟩, .bool false, .slice none 0 0, .slice none 0 0, .bool false, .slice none 0 0, .slice none 0 0] 26 (0, 0)) := by rw [hW0]; exact blk_alloc (heap_alloc_new _ _) _
    have hB0 : Below w.heap.size w W0 := by rw [hW0]; exact below_alloc (below_alloc (Below.refl _ _) _) _
    have hz0 : w.heap.size + 2 ≤ W0.heap.size := by rw [hW0]; simp
    clear hW0
    refine (H27.out W0 hB0 hz0).mono ?_
    rintro e w1 ⟨rfl, hb1, hr1⟩
    have hz1 : w.heap.size + 2 ≤ w1.heap.size := Nat.le_trans hz0 hb1.size
    have HN1 := Aside0.mk (blk_below hn0 hb1)
    have HB1 := Aside0.mk (below_step hB0 hb1)
    have HR1 := Aside0.mk hr1
    have HZ1 := Aside0.mk hz1
    clear hn0 hB0 hz0 hb1 hr1 hz1
    go_wp2_with fail
    refine (H26.out w1 HZ1.out HR1.out).mono ?_
    rintro e w2 ⟨A, n, c, A2, n2, c2, rfl, hq, hb2⟩
    unfold numVal
    have HN2 := Aside0.mk (blk_below HN1.out hb2)
    have HB2 := Aside0.mk (below_step HB1.out hb2)
    have HQ2 := Aside0.mk hq
    clear hq hb2
    have ac0 : w2.cell? ⟨w.heap.size, 0, none⟩ = some (.int .i64 0) := blk_cell HN2.out 0
    have af0 : w2.frozen? ⟨w.heap.size, 0, none⟩ = false := blk_frozen HN2.out 0
    have ac1 : w2.cell? ⟨w.heap.size, 1, none⟩ = some (.bool false) := blk_cell HN2.out 1
    have af1 : w2.frozen? ⟨w.heap.size, 1, none⟩ = false := blk_frozen HN2.out 1
    have ac2 : w2.cell? ⟨w.heap.size, 2, none⟩ = some (.string ⟨#[]⟩) := blk_cell HN2.out 2
    have af2 : w2.frozen? ⟨w.heap.size, 2, none⟩ = false := blk_frozen HN2.out 2
    have ac3 : w2.cell? ⟨w.heap.size, 3, none⟩ = some (.bool false) := blk_cell HN2.out 3
    have af3 : w2.frozen? ⟨w.heap.size, 3, none⟩ = false := blk_frozen HN2.out 3
    have ac4 : w2.cell? ⟨w.heap.size, 4, none⟩ = some (.slice none 0 0) := blk_cell HN2.out 4
    have af4 : w2.frozen? ⟨w.heap.size, 4, none⟩ = false := blk_frozen HN2.out 4
    have ac5 : w2.cell? ⟨w.heap.size, 5, none⟩ = some (.slice none 0 0) := blk_cell HN2.out 5
    have af5 : w2.frozen? ⟨w.heap.size, 5, none⟩ = false := blk_frozen HN2.out 5
    have ac6 : w2.cell? ⟨w.heap.size, 6, none⟩ = some (.bool false) := blk_cell HN2.out 6
    have af6 : w2.frozen? ⟨w.heap.size, 6, none⟩ = false := blk_frozen HN2.out 6
    have ac7 : w2.cell? ⟨w.heap.size, 7, none⟩ = some (.slice none 0 0) := blk_cell HN2.out 7
    have af7 : w2.frozen? ⟨w.heap.size, 7, none⟩ = false := blk_frozen HN2.out 7
    have ac8 : w2.cell? ⟨w.heap.size, 8, none⟩ = some (.slice none 0 0) := blk_cell HN2.out 8
    have af8 : w2.frozen? ⟨w.heap.size, 8, none⟩ = false := blk_frozen HN2.out 8
    go_wp2_with fail
    refine bodyPost_ret (results_cell_row rfl _ _ w.heap.size 26 #[.int .i64 k, .bool false, .string ⟨#[]⟩, .bool neg, .slice A n c, .slice A2 n2 c2, .bool false, .slice none 0 0, .slice none 0 0] (0, 0) _ rfl (blk_put (cs := #[.int .i64 k, .bool false, .string ⟨#[]⟩, .bool neg, .slice A n c, .slice A2 n2 c2, .bool false, .slice none 0 0, .slice none 0 0]) (blk_put (cs := #[.int .i64 k, .bool false, .string ⟨#[]⟩, .bool neg, .slice A n c, .slice A2 n2 c2, .bool false, .slice none 0 0, .slice none 0 0]) (blk_put (cs := #[.int .i64 k, .bool false, .string ⟨#[]⟩, .bool neg, .slice A n c, .slice A2 n2 c2, .bool false, .slice none 0 0, .slice none 0 0]) (blk_put (cs := #[.int .i64 k, .bool false, .string ⟨#[]⟩, .bool neg, .slice A n c, .slice none 0 0, .bool false, .slice none 0 0, .slice none 0 0]) (blk_put (cs := #[.int .i64 k, .bool false, .string ⟨#[]⟩, .bool neg, .slice none 0 0, .slice none 0 0, .bool false, .slice none 0 0, .slice none 0 0]) (blk_put (cs := #[.int .i64 k, .bool false, .string ⟨#[]⟩, .bool false, .slice none 0 0, .slice none 0 0, .bool false, .slice none 0 0, .slice none 0 0]) (blk_put (cs := #[.int .i64 k, .bool false, .string ⟨#[]⟩, .bool false, .slice none 0 0, .slice none 0 0, .bool false, .slice none 0 0, .slice none 0 0]) (blk_put (cs := #[.int .i64 k, .bool false, .string ⟨#[]⟩, .bool false, .slice none 0 0, .slice none 0 0, .bool false, .slice none 0 0, .slice none 0 0]) (blk_put (cs := #[.int .i64 0, .bool false, .string ⟨#[]⟩, .bool false, .slice none 0 0, .slice none 0 0, .bool false, .slice none 0 0, .slice none 0 0]) HN2.out 0 _ rfl) 1 _ rfl) 2 _ rfl) 3 _ rfl) 4 _ rfl) 5 _ rfl) 6 _ rfl) 7 _ rfl) 8 _ rfl) Tryz.underlying26 rfl (by kernel_rfl)) rfl ?_
    refine ⟨A, n, c, A2, n2, c2, rfl, ?_, ?_⟩
    · repeat refine HQ.out _ _ _ _ _ ?_
      exact HQ2.out
    · repeat refine Below.setCell ?_ (by simp) _
      exact HB2.out
end Go.Proofs.YtgpoplfgngiilaaGreatDoor
