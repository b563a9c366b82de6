-- Written by a program of this session (wip/tools/handlaw.py).
import Derived.Test.YtfkagnpdapkaaaaDoorRows
import Derived.Test.YtfkagnpdapkaaaaDoorArrB
import Derived.Test.YtfkagnpdapkaaaaDoorTie
import Derived.Test.YtfkagnpdapkaaaaDoorScG
import Derived.Test.YtfkagnpdapkaaaaDoorFactsB
import Derived.LaidMore
import Derived.Lay
import Derived.SevenTiedAt
import Derived.Stop.Joined
import Derived.WalkKit
import Derived.ProofKit
import Derived.OpenShut
import Derived.ShutString
import Derived.ChangeOld
import Derived.Below
import Derived.SizedLaws
import Derived.Test.YtfkagnpdapkaaaaDoorWSized
namespace Go.Proofs.YtfkagnpdapkaaaaDoor.fnMasks
open Go.ChangeShapes Go.WideShapes Go.ChangeAt Go.RowKit
open Go.ChangeMaps (open_string shut_string)
set_option linter.unusedVariables false
theorem own : ownKnob Tryd.prog.godebug = none := by kernel_rfl
theorem laidOut : laidOutB Tryd.prog = true := by kernel_rfl
def IsRow (k : IntKind) (w : World) (a : Option Addr) (len cap : Nat) (zs : List Int) : Prop :=
  (a = none ∧ len = 0 ∧ cap = 0 ∧ zs = []) ∨
  ∃ x, a = some x ∧ len ≤ cap ∧ cap ≤ maxLen ∧ zs.length = cap ∧ (∀ i, i < zs.length → w.cell? (x.add i) = some (.int k (zs.getD i 0))) ∧ ∀ n ∈ zs, (Lit.int k n).wf = true
set_option maxRecDepth 100000 in
theorem lifted (os : Os) (started : os.Started) (H : Type) (enc : TypeId × Value → H) :
    ReturnsInHanded {} Tryd.checked os 4 .any (fun w args => (Rows.fnMasksSpec.pre enc Tryd.prog Tryd.f4 Rows.fnMasksRow.domain false w args ∧ laidMetH Tryd.prog [("math/bits.deBruijn64tab", Rows.laid_math_bits_deBruijn64tab), ("unicode/utf8.acceptRanges", Rows.laid_unicode_utf8_acceptRanges), ("strconv.isGraphic", Rows.laid_strconv_isGraphic), ("strconv.isNotPrint16", Rows.laid_strconv_isNotPrint16), ("strconv.isNotPrint32", Rows.laid_strconv_isNotPrint32), ("strconv.isPrint16", Rows.laid_strconv_isPrint16), ("strconv.isPrint32", Rows.laid_strconv_isPrint32), ("unicode/utf8.first", Rows.laid_unicode_utf8_first)] w) ∧ sizedMet enc Tryd.prog Tryd.f4 (OpenSpec.ofChange Rows.fnMasksSpec) false w args)
      (Rows.fnMasksSpec.post enc Tryd.prog Tryd.f4 false true false false) := by
  refine returnsInHanded_of_change_and (C := Tryd.checked) (X := fun w _ => laidMetH Tryd.prog [("math/bits.deBruijn64tab", Rows.laid_math_bits_deBruijn64tab), ("unicode/utf8.acceptRanges", Rows.laid_unicode_utf8_acceptRanges), ("strconv.isGraphic", Rows.laid_strconv_isGraphic), ("strconv.isNotPrint16", Rows.laid_strconv_isNotPrint16), ("strconv.isNotPrint32", Rows.laid_strconv_isNotPrint32), ("strconv.isPrint16", Rows.laid_strconv_isPrint16), ("strconv.isPrint32", Rows.laid_strconv_isPrint32), ("unicode/utf8.first", Rows.laid_unicode_utf8_first)] w) (fun _ _ _ hh h => h.of_heap hh) own started (by kernel_rfl) Tryd.func4
    (ChangeSpec.witness_shaped (enc := enc) (C := Tryd.checked) (os := os) (X := fun w _ => laidMetH Tryd.prog [("math/bits.deBruijn64tab", Rows.laid_math_bits_deBruijn64tab), ("unicode/utf8.acceptRanges", Rows.laid_unicode_utf8_acceptRanges), ("strconv.isGraphic", Rows.laid_strconv_isGraphic), ("strconv.isNotPrint16", Rows.laid_strconv_isNotPrint16), ("strconv.isNotPrint32", Rows.laid_strconv_isNotPrint32), ("strconv.isPrint16", Rows.laid_strconv_isPrint16), ("strconv.isPrint32", Rows.laid_strconv_isPrint32), ("unicode/utf8.first", Rows.laid_unicode_utf8_first)] w) false (World.laidAll Tryd.prog os [("math/bits.deBruijn64tab", Rows.laid_math_bits_deBruijn64tab), ("unicode/utf8.acceptRanges", Rows.laid_unicode_utf8_acceptRanges), ("strconv.isGraphic", Rows.laid_strconv_isGraphic), ("strconv.isNotPrint16", Rows.laid_strconv_isNotPrint16), ("strconv.isNotPrint32", Rows.laid_strconv_isNotPrint32), ("strconv.isPrint16", Rows.laid_strconv_isPrint16), ("strconv.isPrint32", Rows.laid_strconv_isPrint32), ("unicode/utf8.first", Rows.laid_unicode_utf8_first)]) #[.agg #[.int .u8 0, .int .u8 0, .int .u8 0, .int .u8 0, .int .u8 0, .int .u8 0, .int .u8 0, .int .u8 0, .int .u8 0, .int .u8 0, .int .u8 0, .int .u8 0, .int .u8 0, .int .u8 0, .int .u8 0, .int .u8 0, .int .u8 0, .int .u8 0, .int .u8 0, .int .u8 0, .int .u8 0, .int .u8 0, .int .u8 0, .int .u8 0, .int .u8 0, .int .u8 0, .int .u8 0, .int .u8 0, .int .u8 0, .int .u8 0, .int .u8 0, .int .u8 0, .int .u8 0, .int .u8 0, .int .u8 0, .int .u8 0, .int .u8 0, .int .u8 0, .int .u8 0, .int .u8 0, .int .u8 0, .int .u8 0, .int .u8 0, .int .u8 0, .int .u8 0, .int .u8 0, .int .u8 0, .int .u8 0, .int .u8 0, .int .u8 0, .int .u8 0, .int .u8 0, .int .u8 0, .int .u8 0, .int .u8 0, .int .u8 0, .int .u8 0, .int .u8 0, .int .u8 0, .int .u8 0, .int .u8 0, .int .u8 0, .int .u8 0, .int .u8 0]] 8 (World.laidAll_os _ _ _)
      (World.shaped_of_ZipB (by kernel_rfl) (by kernel_rfl)) (by kernel_rfl) (by kernel_rfl) (by kernel_rfl)
      (by rw [MakeChecks.laidMetH_plain _ _ _ (by kernel_rfl)]; exact laidMet_laidAll _ (by kernel_rfl) (by kernel_rfl))) ?_
  intro W base args ds gs before hval0 hW hcnd hsz0 hL _
  have hG := Laid.g hL
  have hsz : (DataW.weightsEach Tryd.prog (Tryd.f4.params.toList ++ Rows.fnMasksSpec.plain.varTypes Tryd.prog) (ds ++ gs)).all (· ≤ reachBytes) = true := hsz0
  have hval : ∀ (j : Nat) t v, Tryd.f4.params[j]? = some t → args[j]? = some v → Value.okWide Tryd.prog W .any base t v := hval0
  have hW' := hW
  obtain ⟨p, q, hA0, hV, rfl, hfz, hnd⟩ := hW
  have hA : DataW.TrodAll enc Tryd.prog W 0 (fun _ => true) true Tryd.f4.params.toList args.toList ds p := hA0
  rw [Tryd.params4] at hA hval hsz
  obtain ⟨v0, vs0, d0, ds0, p0, q0, hargs, rfl, rfl, h0, r0⟩ := trodAll_cons hA
  obtain ⟨rfl, rfl, rfl⟩ := trodAll_nil r0
  obtain rfl : args = #[v0] := by cases args; simp_all
  obtain ⟨rfl, rfl⟩ := trodVars_none hV
  obtain ⟨l0, rfl, n0, b0, rfl, s0⟩ := Err.open_bytes Tryd.underlying34 Tryd.underlying5 (by kernel_rfl) (by kernel_rfl) (hval 0 34 v0 rfl rfl) h0
  clear hA0 hval0 hsz0 hsz
  refine (Err.masks_walk l0 W n0 b0 hG).mono fun e W' ⟨he, bel⟩ => ?_
  subst he
  exact ⟨_, rfl, _, _, _, [], _, [], hW', trodAll_mk1 (shut_bool Tryd.underlying4 _), (trodAll_cons_mk (s0 _ _) trodAll_mk0), rfl, bel.frame _, fun h => by cases h⟩
theorem limb0 : (Rows.fnMasksRow.wf (OpenSpec.ofChange Rows.fnMasksSpec)) = true := by kernel_rfl
theorem limb3 : (Tryd.f4.params.all (Tryd.pinned.checked.prog.readableRec ·)) = true := by kernel_rfl
theorem limb4 : (namedTie Tryd.pinned.checked.prog Rows.fnMasksRow.named Rows.fnMasksSpec.vars) = true := by kernel_rfl
theorem limb5 : ((Rows.fnMasksRow.stops == [])) = true := by kernel_rfl
theorem limb7 : ((Rows.fnMasksRow.knobs == [])) = true := by kernel_rfl
theorem limb9 : ((Rows.fnMasksRow.inPlace == Tryd.pinned.checked.prog.inPlace 4)) = true := by kernel_rfl
theorem limb10 : ((Rows.fnMasksRow.unfollowed == Tryd.pinned.checked.prog.unfollowed 4)) = true := by kernel_rfl
theorem limb11 : ((Rows.fnMasksRow.recurses == Tryd.pinned.checked.prog.recurses 4)) = true := by kernel_rfl
theorem limb12 : ((Rows.fnMasksRow.named == Tryd.pinned.checked.prog.varsNamed 4)) = true := by kernel_rfl
theorem limb13 : ((Rows.fnMasksRow.maps == (Tryd.f4.params.toList ++ Rows.fnMasksSpec.plain.varTypes Tryd.pinned.checked.prog).any (Tryd.pinned.checked.prog.mapsRec ·))) = true := by kernel_rfl
theorem limb14 : ((Rows.fnMasksRow.ifaces == (Tryd.f4.params.toList ++ Rows.fnMasksSpec.plain.varTypes Tryd.pinned.checked.prog).any (Tryd.pinned.checked.prog.ifacesRec ·))) = true := by kernel_rfl
theorem limb15 : ((Rows.fnMasksRow.mapsOut == Tryd.pinned.checked.prog.mapsAmong Tryd.f4.resultTypes.toList)) = true := by kernel_rfl
theorem limb16 : ((Rows.fnMasksRow.loops == (Tryd.f4.params.toList ++ Rows.fnMasksSpec.plain.varTypes Tryd.pinned.checked.prog).any (Tryd.pinned.checked.prog.loopsFrom ·))) = true := by kernel_rfl
theorem limb17 : ((Rows.fnMasksRow.wideKeys == (Tryd.f4.params.toList ++ Rows.fnMasksSpec.plain.varTypes Tryd.pinned.checked.prog ++ Tryd.f4.resultTypes.toList).any (Tryd.pinned.checked.prog.wideKeysFrom ·))) = true := by kernel_rfl
theorem limb18 : (Rows.fnMasksSpec.vars.all (Tryd.pinned.checked.prog.varReadable ·)) = true := by kernel_rfl
theorem limb19 : (Tryd.f4.resultTypes.all (fun t => Tryd.pinned.checked.prog.readableRec t && decide (t < Tryd.pinned.checked.prog.types.size))) = true := by kernel_rfl
theorem limb20 : ((Rows.fnMasksRow.ifacesOut == Tryd.f4.resultTypes.toList.any (Tryd.pinned.checked.prog.ifacesRec ·))) = true := by kernel_rfl
theorem limb21 : ((Rows.fnMasksRow.loopsOut == Tryd.f4.resultTypes.toList.any (Tryd.pinned.checked.prog.loopsFrom ·))) = true := by kernel_rfl
theorem limb23 : (Rows.fnMasksRow.shortTexts.isNone) = true := by kernel_rfl
theorem limb28 : ((Rows.fnMasksRow.kinds == (if Rows.fnMasksRow.domain.isEmpty then [] else Tryd.f4.params.toList.map fun t => match Tryd.pinned.checked.prog.underlying t with | some (.int k) => some k | _ => none))) = true := by kernel_rfl
theorem limb29 : ((Rows.fnMasksRow.pinned == Rows.fnMasksRow.pinnedBy)) = true := by kernel_rfl
theorem limb30 : ((Rows.fnMasksRow.veiled == (Tryd.f4.params.toList ++ Rows.fnMasksSpec.plain.varTypes Tryd.pinned.checked.prog ++ Tryd.f4.resultTypes.toList).any (Tryd.pinned.checked.prog.veiledRec ·))) = true := by kernel_rfl
theorem limb31 : (Rows.fnMasksRow.veiledFits Tryd.pinned.checked.prog Tryd.f4.params.toList (Tryd.f4.params.toList ++ Rows.fnMasksSpec.plain.varTypes Tryd.pinned.checked.prog ++ Tryd.f4.resultTypes.toList)) = true := by kernel_rfl
set_option maxRecDepth 100000 in
theorem facts : joinedFacts Tryd.pinned.checked.prog 4 Tryd.f4 Rows.fnMasksSpec Rows.fnMasksRow = true := by
  delta joinedFacts
  exact (Facts.and_t (Facts.and_t (Facts.and_t (Facts.and_t (Facts.and_t (Facts.and_t (Facts.and_t (Facts.and_t (Facts.and_t (Facts.and_t (Facts.and_t (Facts.and_t (Facts.and_t (Facts.and_t (Facts.and_t (Facts.and_t (Facts.and_t (Facts.and_t (Facts.and_t (Facts.and_t (Facts.and_t (Facts.and_t (Facts.and_t (Facts.and_t (Facts.and_t (Facts.and_t (Facts.and_t (Facts.and_t (Facts.and_t (Facts.and_t (Facts.and_t limb0 Facts.laidOut) Facts.mapsRowed_) limb3) limb4) limb5) Facts.stops) limb7) Facts.stopKnobs) limb9) limb10) limb11) limb12) limb13) limb14) limb15) limb16) limb17) limb18) limb19) limb20) limb21) Facts.plainKeys) limb23) Facts.stopsHeard) Facts.mayEnter) Facts.lifted) Facts.make) limb28) limb29) limb30) limb31)
theorem over : Rows.fnMasksRow.holds Tryd.pinned (OpenSpec.ofChange Rows.fnMasksSpec) :=
  OpenClaim.holds_of_wide 4 Tryd.f4 rfl rfl rfl rfl rfl rfl rfl ⟨rfl, rfl, rfl, rfl, rfl⟩ rfl rfl rfl rfl rfl (by kernel_rfl) Tryd.func4 facts
    (of_decide_eq_true (by kernel_rfl)) (by unfold Func.isWrapper; first | (rw [if_pos (by decide +kernel)]; kernel_rfl) | (rw [if_neg (by decide +kernel)]; exact ⟨rfl, rfl⟩))
    (fun os started H enc _ => lifted os started H enc)
theorem proved : Rows.FnMasksSaid := over
#print axioms proved
end Go.Proofs.YtfkagnpdapkaaaaDoor.fnMasks
namespace Go.Proofs.YtfkagnpdapkaaaaDoor
/-- The row, under a short name, for the claim. -/
theorem fnMasks_holds : Rows.FnMasksSaid := fnMasks.proved
end Go.Proofs.YtfkagnpdapkaaaaDoor
