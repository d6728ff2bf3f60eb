/- Proved: the tied card of FnLiteralHexFloat: for every number of 64 bits, every place of the point, every exponent and every form, the law FnLiteralHexFloat of package laws returns true and its input reads as it did. No conditions beyond those of the given row. -/
import Derived.Test.YtgpoplfgngiilaaGreatDoorZ27
import Derived.Test.YtgpoplfgngiilaaGreatDoorZ28
import Derived.Test.YtgpoplfgngiilaaGreatDoorRows
import Derived.Test.YtgpoplfgngiilaaGreatDoorCards
import Derived.Test.YtgpoplfgngiilaaGreatDoorTie
import Derived.Stop.LaidErr
import Derived.ProofKit
import Derived.OpenVars
import Derived.PinnedBridge
import Derived.Lay
import Derived.SevenTiedAt
set_option linter.unusedVariables false
set_option linter.unusedSimpArgs false
namespace Go.Proofs.YtgpoplfgngiilaaGreatDoor
open Go.ChangeShapes Go.WideShapes Go.ChangeAt Go.RowKit Go.Lib Go.Proofs.YtgpoplfgngiilaaGreatDoorW.PrintWords

theorem hexf_own : ownKnob Tryz.prog.godebug = none := by kernel_rfl
theorem hexf_laidOut : laidOutB Tryz.prog = true := by kernel_rfl
theorem hexf_eof : Tryz.prog.globalNamed "io.EOF" = some 1 := by kernel_rfl
theorem hexf_teof : (Tryz.prog.globals[1]?).map (·.type) = some 85 := by kernel_rfl
theorem hexf_star : "*" ++ "errors.errorString" = "*errors.errorString" := by decide
theorem hexf_279 (u : TypeId) (h : Tryz.prog.typeName? 3 u = some "*errors.errorString") : u = 279 :=
  typeName_ptr_named (nm := "errors.errorString") (by rw [hexf_star]; kernel_rfl) (by kernel_rfl) (by decide) u (by rw [hexf_star]; exact h)
theorem hexf_c9 : Tryz.prog.cellsOf 9 = 1 := by kernel_rfl
theorem hexf_c281 : Tryz.prog.cellsOf 281 = 1 := by kernel_rfl
theorem hexf_eof_of {W : World} (hL : laidMet Tryz.prog Rows.fnLiteralHexFloatRow.laid W) : ∃ pa, Eof W pa := by
  obtain ⟨a0, s0, hv0, _⟩ := laid_sentinel hL.tail.tail.tail.tail.tail.tail hexf_eof hexf_teof Tryz.underlying85 hexf_279 Tryz.underlying279 Tryz.underlying281 rfl rfl Tryz.underlying9 hexf_c281 hexf_c9
  refine ⟨a0, ?_⟩
  unfold Eof
  simpa using World.var?_cell hexf_eof hv0 0

theorem hexf_trodVars_length {H : Type} {enc : TypeId × Value → H} {P : Program} {W : World} {f : Nat → Bool} : ∀ {ns : List String} {gs : List (DataW H)} {ps : List MemPlace}, DataW.TrodVars enc P W f ns gs ps → gs.length = ns.length
  | [], [], _, _ => rfl
  | [], _ :: _, _, h => h.elim
  | _ :: _, [], _, h => h.elim
  | n :: ns, d :: ds, ps, h => by
    obtain ⟨g, t, cs, fuel, p, q, h1, h2, h3, h4, hs, e⟩ := h
    rw [List.length_cons, List.length_cons, hexf_trodVars_length hs]
theorem hexf_seven {α : Type} : ∀ {gs : List α}, gs.length = 7 → ∃ a b c d e f g, gs = [a, b, c, d, e, f, g]
  | [a, b, c, d, e, f, g], _ => ⟨a, b, c, d, e, f, g, rfl⟩

set_option maxRecDepth 100000 in
theorem hexf_lifted (os : Os) (started : os.Started) (H : Type) (enc : TypeId × Value → H) :
    ReturnsInHanded {} Tryz.checked os 5 .any (fun w args => (Rows.fnLiteralHexFloatSpec.pre enc Tryz.prog Tryz.f5 [] false w args ∧ laidMetH Tryz.prog Rows.fnLiteralHexFloatRow.laid w) ∧ sizedMet enc Tryz.prog Tryz.f5 (OpenSpec.ofChange Rows.fnLiteralHexFloatSpec) false w args)
      (Rows.fnLiteralHexFloatSpec.post enc Tryz.prog Tryz.f5 false true false false) := by
  refine returnsInHanded_of_change_and (C := Tryz.checked) (X := fun w _ => laidMetH Tryz.prog Rows.fnLiteralHexFloatRow.laid w) (fun _ _ _ hh h => h.of_heap hh) hexf_own started (by kernel_rfl) Tryz.func5
    (ChangeSpec.witness_shaped (enc := enc) (C := Tryz.checked) (os := os) (X := fun w _ => laidMetH Tryz.prog Rows.fnLiteralHexFloatRow.laid w) false (World.laidAll Tryz.prog os Rows.fnLiteralHexFloatRow.laid) #[.int .u64 0, .int .u8 0, .int .i16 0, .int .u8 0] 8 (World.laidAll_os _ _ _)
      (World.shaped_of_ZipB (by kernel_rfl) (by kernel_rfl)) (by kernel_rfl) (by kernel_rfl) (by kernel_rfl)
      (by rw [MakeChecks.laidMetH_plain _ _ _ (by kernel_rfl)]; exact laidMet_laidAll _ (by kernel_rfl) (by kernel_rfl))) ?_
  intro W base args ds gs before hval0 hW _ _ hL _
  have hval : ∀ (j : Nat) t v, Tryz.f5.params[j]? = some t → args[j]? = some v → Value.okWide Tryz.prog W .any base t v := hval0
  have hW' := hW
  obtain ⟨p, q, hA0, hV, rfl, _, _⟩ := hW
  have hA : DataW.TrodAll enc Tryz.prog W 0 (fun _ => true) true Tryz.f5.params.toList args.toList ds p := hA0
  rw [Tryz.params5] at hA hval
  obtain ⟨v0, v1, v2, v3, d0, d1, d2, d3, p0, p1, p2, p3, rfl, rfl, rfl, h0, h1, h2, h3⟩ := trodAll_four hA
  obtain ⟨x, rfl, rfl, rfl, wx⟩ := open_int Tryz.underlying47 (hval 0 47 v0 rfl rfl) h0
  obtain ⟨y, rfl, rfl, rfl, wy⟩ := open_int Tryz.underlying5 (hval 1 5 v1 rfl rfl) h1
  obtain ⟨u, rfl, rfl, rfl, wu⟩ := open_int Tryz.underlying48 (hval 2 48 v2 rfl rfl) h2
  obtain ⟨v, rfl, rfl, rfl, wv⟩ := open_int Tryz.underlying5 (hval 3 5 v3 rfl rfl) h3
  have hx : 0 ≤ x ∧ x ≤ 18446744073709551615 := by simpa [Lit.wf, IntKind.min, IntKind.max, IntKind.signed, IntKind.bits] using wx
  have hy : 0 ≤ y ∧ y ≤ 255 := by simpa [Lit.wf, IntKind.min, IntKind.max, IntKind.signed, IntKind.bits] using wy
  have hu : -32768 ≤ u ∧ u ≤ 32767 := by simpa [Lit.wf, IntKind.min, IntKind.max, IntKind.signed, IntKind.bits] using wu
  have hv : 0 ≤ v ∧ v ≤ 255 := by simpa [Lit.wf, IntKind.min, IntKind.max, IntKind.signed, IntKind.bits] using wv
  obtain ⟨n, rfl⟩ := Int.eq_ofNat_of_zero_le hx.1
  obtain ⟨k, rfl⟩ := Int.eq_ofNat_of_zero_le hy.1
  obtain ⟨f, rfl⟩ := Int.eq_ofNat_of_zero_le hv.1
  rw [MakeChecks.laidMetH_plain _ _ _ (by kernel_rfl)] at hL
  obtain ⟨pa, he⟩ := hexf_eof_of hL
  refine (law_hex n k f u W (by omega) (by omega) hu.1 (by omega) (by omega) pa he).mono fun e W' ⟨he, hb⟩ => ?_
  subst he
  obtain ⟨g1, g2, g3, g4, g5, g6, g7, rfl⟩ := hexf_seven (hexf_trodVars_length hV)
  exact ⟨_, rfl, _, _, _, [], _, q, hW', trodAll_mk1 (shut_bool Tryz.underlying4 _), trodAll_cons_mk (shut_int Tryz.underlying47 wx) (trodAll_cons_mk (shut_int Tryz.underlying5 wy) (trodAll_cons_mk (shut_int Tryz.underlying48 wu) (trodAll_cons_mk (shut_int Tryz.underlying5 wv) trodAll_mk0))), hb.trodVars hexf_laidOut (by kernel_rfl) hV, hb.frame _, fun h => by cases h⟩

theorem hexf_holds : Rows.FnLiteralHexFloatSaid :=
  OpenClaim.holds_of_wide 5 Tryz.f5 rfl rfl rfl rfl rfl rfl rfl ⟨rfl, rfl, rfl, rfl, rfl⟩ rfl rfl rfl rfl rfl hexf_named Tryz.func5 hexf_closed hexf_inst hexf_wrap
    (fun os started H enc _ => hexf_lifted os started H enc)

theorem fnLiteralHexFloatCard_holds : Rows.FnLiteralHexFloatCardSaid :=
  Claim7.holds_tied_plain_at .later [] [.data, .data, .data, .data, .sentinel, .sentinel, .sentinel, .data, .sentinel, .sentinel, .data, .data, .data, .data, .pinned] true (true, "8fffb0e42caece08a6f7f5f3c146177005e17b7e3568915d68f8fc414b808779") true hexf_holds (fun _ h => by cases h) hexf_wf (fun _ h => by cases h) fnLiteralHexFloat_row_tie rfl ⟨rfl, rfl⟩ hexf_main rfl
    (fun f fn hf hfn => by
      obtain rfl : f = 5 := Option.some.inj (hexf_named.symm.trans hf) |>.symm
      obtain rfl : fn = Tryz.f5 := (Option.some.inj (Tryz.func5.symm.trans hfn)).symm
      exact ⟨hexf_looks, fun j t ht => by
        rw [Tryz.params5] at ht
        have hm : t ∈ [47, 5, 48, 5] := by simpa using Array.mem_of_getElem? ht
        have hall := hexf_stand
        exact (show Tryz.prog.wantsStandIn t = false by simpa using List.all_eq_true.1 hall t hm)⟩)
    hexf_goes
#print axioms fnLiteralHexFloatCard_holds
end Go.Proofs.YtgpoplfgngiilaaGreatDoor
