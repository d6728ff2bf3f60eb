/- Proved: the tied card of FnLiteralChar: for every rune number and every form, the law FnLiteralChar of package laws returns true and its input reads as it did. No conditions beyond those of the given row. -/
import Derived.Test.YtgpoplfgngiilaaGreatDoorCh
import Derived.Test.YtgpoplfgngiilaaGreatDoorCards
import Derived.Test.YtgpoplfgngiilaaGreatDoorTie
import Derived.Test.YtgpoplfgngiilaaGreatDoorCf
import Derived.ProofKit
import Derived.OpenVars
import Derived.PinnedBridge
import Derived.Lay
import Derived.Lib.LaidU8
import Derived.SevenTiedAt
namespace Go.Proofs.YtgpoplfgngiilaaGreatDoor
open Go.ChangeShapes Go.WideShapes Go.ChangeAt Go.RowKit Go.Lib
set_option linter.unusedVariables false

theorem char_own : ownKnob Tryz.prog.godebug = none := by kernel_rfl
theorem char_laidOut : laidOutB Tryz.prog = true := by kernel_rfl
theorem char_u8 : U8Extra Tryz.prog Tryz.lays260_ren := ⟨by kernel_rfl, by kernel_rfl, by kernel_rfl, by kernel_rfl, by kernel_rfl, by kernel_rfl, by kernel_rfl⟩
theorem char_accept : Rows.laid_unicode_utf8_acceptRanges = acceptData := by kernel_rfl

theorem trodVars_length {H : Type} {enc : TypeId × Value → H} {P : Program} {W : World} {f : Nat → Bool} : ∀ {ns : List String} {gs : List (DataW H)} {ps : List MemPlace}, DataW.TrodVars enc P W f ns gs ps → gs.length = ns.length
  | [], [], _, _ => rfl
  | [], _ :: _, _, h => h.elim
  | _ :: _, [], _, h => h.elim
  | n :: ns, d :: ds, ps, h => by
    obtain ⟨g, t, cs, fuel, p, q, h1, h2, h3, h4, hs, e⟩ := h
    rw [List.length_cons, List.length_cons, trodVars_length hs]

theorem list_seven {α : Type} : ∀ {gs : List α}, gs.length = 7 → ∃ a b c d e f g, gs = [a, b, c, d, e, f, g]
  | [a, b, c, d, e, f, g], _ => ⟨a, b, c, d, e, f, g, rfl⟩

set_option maxRecDepth 100000 in
theorem char_lifted (os : Os) (started : os.Started) (H : Type) (enc : TypeId × Value → H) :
    ReturnsInHanded {} Tryz.checked os 4 .any (fun w args => (Rows.fnLiteralCharSpec.pre enc Tryz.prog Tryz.f4 [] false w args ∧ laidMetH Tryz.prog Rows.fnLiteralCharRow.laid w) ∧ sizedMet enc Tryz.prog Tryz.f4 (OpenSpec.ofChange Rows.fnLiteralCharSpec) false w args)
      (Rows.fnLiteralCharSpec.post enc Tryz.prog Tryz.f4 false true false false) := by
  refine returnsInHanded_of_change_and (C := Tryz.checked) (X := fun w _ => laidMetH Tryz.prog Rows.fnLiteralCharRow.laid w) (fun _ _ _ hh h => h.of_heap hh) char_own started (by kernel_rfl) Tryz.func4
    (ChangeSpec.witness_shaped (enc := enc) (C := Tryz.checked) (os := os) (X := fun w _ => laidMetH Tryz.prog Rows.fnLiteralCharRow.laid w) false (World.laidAll Tryz.prog os Rows.fnLiteralCharRow.laid) #[.int .u32 0, .int .u8 0] 8 (World.laidAll_os _ _ _)
      (World.shaped_of_ZipB (by kernel_rfl) (by kernel_rfl)) (by kernel_rfl) (by kernel_rfl) (by kernel_rfl)
      (by rw [MakeChecks.laidMetH_plain _ _ _ (by kernel_rfl)]; exact laidMet_laidAll _ (by kernel_rfl) (by kernel_rfl))) ?_
  intro W base args ds gs before hval0 hW _ _ hL _
  have hval : ∀ (j : Nat) t v, Tryz.f4.params[j]? = some t → args[j]? = some v → Value.okWide Tryz.prog W .any base t v := hval0
  have hW' := hW
  obtain ⟨p, q, hA0, hV, rfl, _, _⟩ := hW
  have hA : DataW.TrodAll enc Tryz.prog W 0 (fun _ => true) true Tryz.f4.params.toList args.toList ds p := hA0
  rw [Tryz.params4] at hA hval
  obtain ⟨v0, v1, d0, d1, p0, p1, rfl, rfl, rfl, h0, h1⟩ := trodAll_two hA
  obtain ⟨x, rfl, rfl, rfl, wx⟩ := open_int Tryz.underlying41 (hval 0 41 v0 rfl rfl) h0
  obtain ⟨y, rfl, rfl, rfl, wy⟩ := open_int Tryz.underlying5 (hval 1 5 v1 rfl rfl) h1
  have hx : 0 ≤ x ∧ x ≤ 4294967295 := by simpa [Lit.wf, IntKind.min, IntKind.max, IntKind.signed, IntKind.bits] using wx
  have hy : 0 ≤ y ∧ y ≤ 255 := by simpa [Lit.wf, IntKind.min, IntKind.max, IntKind.signed, IntKind.bits] using wy
  rw [MakeChecks.laidMetH_plain _ _ _ (by kernel_rfl)] at hL
  have hT : Lib.Utf8Tabs 6 7 W := utf8Tabs_of_reads Tryz.lays260 char_u8 (Pinned.utf8First_eq ▸ Lib.laidMet.reads hL (by simp [Rows.fnLiteralCharRow, Rows.laid_unicode_utf8_first])) (char_accept ▸ Lib.laidMet.reads hL (by simp [Rows.fnLiteralCharRow]))
  refine (charLaw x y W hx.1 hx.2 hy.1 hy.2 hT).mono fun e W' ⟨he, hb⟩ => ?_
  subst he
  obtain ⟨g1, g2, g3, g4, g5, g6, g7, rfl⟩ := list_seven (trodVars_length hV)
  exact ⟨_, rfl, _, _, _, [], [], q, hW', trodAll_mk1 (shut_bool Tryz.underlying4 _), trodAll_mk2 (shut_int Tryz.underlying41 wx) (shut_int Tryz.underlying5 wy), hb.trodVars char_laidOut (by kernel_rfl) hV, hb.frame _, fun h => by cases h⟩

theorem char_holds : Rows.FnLiteralCharSaid :=
  OpenClaim.holds_of_wide 4 Tryz.f4 rfl rfl rfl rfl rfl rfl rfl ⟨rfl, rfl, rfl, rfl, rfl⟩ rfl rfl rfl rfl rfl char_named Tryz.func4 char_closed char_inst char_wrap
    (fun os started H enc _ => char_lifted os started H enc)

theorem fnLiteralCharCard_holds : Rows.FnLiteralCharCardSaid :=
  Claim7.holds_tied_plain_at .later [] [.data, .data, .data, .data, .sentinel, .sentinel, .sentinel, .data, .sentinel, .sentinel, .data, .data, .data, .data, .pinned] true (true, "8fffb0e42caece08a6f7f5f3c146177005e17b7e3568915d68f8fc414b808779") true char_holds (fun _ h => by cases h) char_wf (fun _ h => by cases h) fnLiteralChar_row_tie rfl ⟨rfl, rfl⟩ char_main rfl
    (fun f fn hf hfn => by
      obtain rfl : f = 4 := Option.some.inj (char_named.symm.trans hf) |>.symm
      obtain rfl : fn = Tryz.f4 := (Option.some.inj (Tryz.func4.symm.trans hfn)).symm
      exact ⟨char_looks, fun j t ht => by
        rw [Tryz.params4] at ht
        have hm : t ∈ [41, 5] := by simpa using Array.mem_of_getElem? ht
        have hall := char_stand
        exact (show Tryz.prog.wantsStandIn t = false by simpa using List.all_eq_true.1 hall t hm)⟩)
    char_goes
#print axioms fnLiteralCharCard_holds
end Go.Proofs.YtgpoplfgngiilaaGreatDoor
