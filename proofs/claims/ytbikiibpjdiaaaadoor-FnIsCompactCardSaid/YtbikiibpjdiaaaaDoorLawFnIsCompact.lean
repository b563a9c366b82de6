-- Written by a program of this session (wip/tools/handlaw.py).
import Derived.Test.YtbikiibpjdiaaaaDoorRows
import Derived.Test.YtbikiibpjdiaaaaDoorLawIs
import Derived.Test.YtbikiibpjdiaaaaDoorTie
import Derived.Test.YtbikiibpjdiaaaaDoorFH
import Derived.Test.YtbikiibpjdiaaaaDoorFactsB
import Derived.LaidMore
import Derived.Lay
import Derived.SevenTiedAt
import Derived.Stop.Joined
import Derived.WalkKit
import Derived.ProofKit
import Derived.OpenShut
import Derived.ShutString
import Derived.ChangeOld
import Derived.Below
import Derived.SizedLaws
import Derived.Test.YtbikiibpjdiaaaaDoorWSized
namespace Go.Proofs.YtbikiibpjdiaaaaDoor.fnIsCompact
open Go.ChangeShapes Go.WideShapes Go.ChangeAt Go.RowKit
open Go.ChangeMaps (open_string shut_string)
set_option linter.unusedVariables false
theorem own : ownKnob Tryd.prog.godebug = none := by kernel_rfl
theorem laidOut : laidOutB Tryd.prog = true := by kernel_rfl
def IsRow (k : IntKind) (w : World) (a : Option Addr) (len cap : Nat) (zs : List Int) : Prop :=
  (a = none ∧ len = 0 ∧ cap = 0 ∧ zs = []) ∨
  ∃ x, a = some x ∧ len ≤ cap ∧ cap ≤ maxLen ∧ zs.length = cap ∧ (∀ i, i < zs.length → w.cell? (x.add i) = some (.int k (zs.getD i 0))) ∧ ∀ n ∈ zs, (Lit.int k n).wf = true
set_option maxRecDepth 100000 in
theorem lifted (os : Os) (started : os.Started) (H : Type) (enc : TypeId × Value → H) :
    ReturnsInHanded {} Tryd.checked os 5 .any (fun w args => (Rows.fnIsCompactSpec.pre enc Tryd.prog Tryd.f5 Rows.fnIsCompactRow.domain false w args ∧ laidMetH Tryd.prog [("math/bits.deBruijn64tab", Rows.laid_math_bits_deBruijn64tab), ("unicode/utf8.acceptRanges", Rows.laid_unicode_utf8_acceptRanges), ("strconv.isGraphic", Rows.laid_strconv_isGraphic), ("strconv.isNotPrint16", Rows.laid_strconv_isNotPrint16), ("strconv.isNotPrint32", Rows.laid_strconv_isNotPrint32), ("strconv.isPrint16", Rows.laid_strconv_isPrint16), ("strconv.isPrint32", Rows.laid_strconv_isPrint32), ("unicode/utf8.first", Rows.laid_unicode_utf8_first)] w) ∧ sizedMet enc Tryd.prog Tryd.f5 (OpenSpec.ofChange Rows.fnIsCompactSpec) false w args)
      (Rows.fnIsCompactSpec.post enc Tryd.prog Tryd.f5 false true false false) := by
  refine returnsInHanded_of_change_and (C := Tryd.checked) (X := fun w _ => laidMetH Tryd.prog [("math/bits.deBruijn64tab", Rows.laid_math_bits_deBruijn64tab), ("unicode/utf8.acceptRanges", Rows.laid_unicode_utf8_acceptRanges), ("strconv.isGraphic", Rows.laid_strconv_isGraphic), ("strconv.isNotPrint16", Rows.laid_strconv_isNotPrint16), ("strconv.isNotPrint32", Rows.laid_strconv_isNotPrint32), ("strconv.isPrint16", Rows.laid_strconv_isPrint16), ("strconv.isPrint32", Rows.laid_strconv_isPrint32), ("unicode/utf8.first", Rows.laid_unicode_utf8_first)] w) (fun _ _ _ hh h => h.of_heap hh) own started (by kernel_rfl) Tryd.func5
    (ChangeSpec.witness_shaped (enc := enc) (C := Tryd.checked) (os := os) (X := fun w _ => laidMetH Tryd.prog [("math/bits.deBruijn64tab", Rows.laid_math_bits_deBruijn64tab), ("unicode/utf8.acceptRanges", Rows.laid_unicode_utf8_acceptRanges), ("strconv.isGraphic", Rows.laid_strconv_isGraphic), ("strconv.isNotPrint16", Rows.laid_strconv_isNotPrint16), ("strconv.isNotPrint32", Rows.laid_strconv_isNotPrint32), ("strconv.isPrint16", Rows.laid_strconv_isPrint16), ("strconv.isPrint32", Rows.laid_strconv_isPrint32), ("unicode/utf8.first", Rows.laid_unicode_utf8_first)] w) false (World.laidAll Tryd.prog os [("math/bits.deBruijn64tab", Rows.laid_math_bits_deBruijn64tab), ("unicode/utf8.acceptRanges", Rows.laid_unicode_utf8_acceptRanges), ("strconv.isGraphic", Rows.laid_strconv_isGraphic), ("strconv.isNotPrint16", Rows.laid_strconv_isNotPrint16), ("strconv.isNotPrint32", Rows.laid_strconv_isNotPrint32), ("strconv.isPrint16", Rows.laid_strconv_isPrint16), ("strconv.isPrint32", Rows.laid_strconv_isPrint32), ("unicode/utf8.first", Rows.laid_unicode_utf8_first)]) #[.slice none 0 0, .bool false] 8 (World.laidAll_os _ _ _)
      (World.shaped_of_ZipB (by kernel_rfl) (by kernel_rfl)) (by kernel_rfl) (by kernel_rfl) (by kernel_rfl)
      (by rw [MakeChecks.laidMetH_plain _ _ _ (by kernel_rfl)]; exact laidMet_laidAll _ (by kernel_rfl) (by kernel_rfl))) ?_
  intro W base args ds gs before hval0 hW hcnd hsz0 hL _
  have hG := Laid.g hL
  have hsz : (DataW.weightsEach Tryd.prog (Tryd.f5.params.toList ++ Rows.fnIsCompactSpec.plain.varTypes Tryd.prog) (ds ++ gs)).all (· ≤ reachBytes) = true := hsz0
  have hval : ∀ (j : Nat) t v, Tryd.f5.params[j]? = some t → args[j]? = some v → Value.okWide Tryd.prog W .any base t v := hval0
  have hW' := hW
  obtain ⟨p, q, hA0, hV, rfl, hfz, hnd⟩ := hW
  have hA : DataW.TrodAll enc Tryd.prog W 0 (fun _ => true) true Tryd.f5.params.toList args.toList ds p := hA0
  rw [Tryd.params5] at hA hval hsz
  obtain ⟨v0, vs0, d0, ds0, p0, q0, hargs, rfl, rfl, h0, r0⟩ := trodAll_cons hA
  obtain ⟨v1, vs1, d1, ds1, p1, q1, rfl, rfl, rfl, h1, r1⟩ := trodAll_cons r0
  obtain ⟨rfl, rfl, rfl⟩ := trodAll_nil r1
  obtain rfl : args = #[v0, v1] := by cases args; simp_all
  obtain ⟨rfl, rfl⟩ := trodVars_none hV
  obtain ⟨a0, len0, cap0, rfl⟩ := okWide_slice Tryd.underlying22 (hval 0 22 v0 rfl rfl)
  have k0 := h0
  have lt0 : ∀ x ∈ p0, x.block < W.heap.size := by obtain ⟨m, hm⟩ := k0; exact DataW.trod_lt m _ _ _ hm
  obtain ⟨z0, w0⟩ : ∃ zs, IsRow .u8 W a0 len0 cap0 zs := by
    obtain ⟨fuel, hf⟩ := h0
    rcases open_ints Tryd.underlying22 Tryd.underlying5 (by kernel_rfl) hf with ⟨hcs, _⟩ | ⟨x, l, c, zs, hcs, _, hl, hm, hz, _, hcell, hwz⟩
    · simp [Value.cells] at hcs
      obtain ⟨rfl, rfl, rfl⟩ := hcs
      exact ⟨[], .inl ⟨rfl, rfl, rfl, rfl⟩⟩
    · simp [Value.cells] at hcs
      obtain ⟨rfl, rfl, rfl⟩ := hcs
      exact ⟨zs, .inr ⟨_, rfl, hl, hm, by simpa using hz, hcell, hwz⟩⟩
  have y0 : len0 * 1 ≤ 140737488351232 := Go.Proofs.YtbikiibpjdiaaaaDoorW.PrintWords.sized_ints hsz (j := 0) (t := 22) rfl rfl Tryd.underlying22 Tryd.underlying5 (by kernel_rfl) (by kernel_rfl) h0
  obtain ⟨a1, rfl, rfl, rfl⟩ := open_bool Tryd.underlying4 (hval 1 4 v1 rfl rfl) h1
  clear hA0 hval0 hsz0 hsz
  refine (Err.is_walk a0 len0 cap0 z0 a1 W w0 y0 hG).mono fun e W' ⟨he, bel⟩ => ?_
  subst he
  exact ⟨_, rfl, _, _, _, [], _, [], hW', trodAll_mk1 (shut_bool Tryd.underlying4 _), (trodAll_cons_mk (Below.trod laidOut (by kernel_rfl) (of_decide_eq_true (by kernel_rfl)) k0 bel lt0) (trodAll_cons_mk (shut_bool Tryd.underlying4 _) trodAll_mk0)), rfl, bel.frame _, fun h => by cases h⟩
theorem limb0 : (Rows.fnIsCompactRow.wf (OpenSpec.ofChange Rows.fnIsCompactSpec)) = true := by kernel_rfl
theorem limb3 : (Tryd.f5.params.all (Tryd.pinned.checked.prog.readableRec ·)) = true := by kernel_rfl
theorem limb4 : (namedTie Tryd.pinned.checked.prog Rows.fnIsCompactRow.named Rows.fnIsCompactSpec.vars) = true := by kernel_rfl
theorem limb5 : ((Rows.fnIsCompactRow.stops == [])) = true := by kernel_rfl
theorem limb7 : ((Rows.fnIsCompactRow.knobs == [])) = true := by kernel_rfl
theorem limb9 : ((Rows.fnIsCompactRow.inPlace == Tryd.pinned.checked.prog.inPlace 5)) = true := by kernel_rfl
theorem limb10 : ((Rows.fnIsCompactRow.unfollowed == Tryd.pinned.checked.prog.unfollowed 5)) = true := by kernel_rfl
theorem limb11 : ((Rows.fnIsCompactRow.recurses == Tryd.pinned.checked.prog.recurses 5)) = true := by kernel_rfl
theorem limb12 : ((Rows.fnIsCompactRow.named == Tryd.pinned.checked.prog.varsNamed 5)) = true := by kernel_rfl
theorem limb13 : ((Rows.fnIsCompactRow.maps == (Tryd.f5.params.toList ++ Rows.fnIsCompactSpec.plain.varTypes Tryd.pinned.checked.prog).any (Tryd.pinned.checked.prog.mapsRec ·))) = true := by kernel_rfl
theorem limb14 : ((Rows.fnIsCompactRow.ifaces == (Tryd.f5.params.toList ++ Rows.fnIsCompactSpec.plain.varTypes Tryd.pinned.checked.prog).any (Tryd.pinned.checked.prog.ifacesRec ·))) = true := by kernel_rfl
theorem limb15 : ((Rows.fnIsCompactRow.mapsOut == Tryd.pinned.checked.prog.mapsAmong Tryd.f5.resultTypes.toList)) = true := by kernel_rfl
theorem limb16 : ((Rows.fnIsCompactRow.loops == (Tryd.f5.params.toList ++ Rows.fnIsCompactSpec.plain.varTypes Tryd.pinned.checked.prog).any (Tryd.pinned.checked.prog.loopsFrom ·))) = true := by kernel_rfl
theorem limb17 : ((Rows.fnIsCompactRow.wideKeys == (Tryd.f5.params.toList ++ Rows.fnIsCompactSpec.plain.varTypes Tryd.pinned.checked.prog ++ Tryd.f5.resultTypes.toList).any (Tryd.pinned.checked.prog.wideKeysFrom ·))) = true := by kernel_rfl
theorem limb18 : (Rows.fnIsCompactSpec.vars.all (Tryd.pinned.checked.prog.varReadable ·)) = true := by kernel_rfl
theorem limb19 : (Tryd.f5.resultTypes.all (fun t => Tryd.pinned.checked.prog.readableRec t && decide (t < Tryd.pinned.checked.prog.types.size))) = true := by kernel_rfl
theorem limb20 : ((Rows.fnIsCompactRow.ifacesOut == Tryd.f5.resultTypes.toList.any (Tryd.pinned.checked.prog.ifacesRec ·))) = true := by kernel_rfl
theorem limb21 : ((Rows.fnIsCompactRow.loopsOut == Tryd.f5.resultTypes.toList.any (Tryd.pinned.checked.prog.loopsFrom ·))) = true := by kernel_rfl
theorem limb23 : (Rows.fnIsCompactRow.shortTexts.isNone) = true := by kernel_rfl
theorem limb28 : ((Rows.fnIsCompactRow.kinds == (if Rows.fnIsCompactRow.domain.isEmpty then [] else Tryd.f5.params.toList.map fun t => match Tryd.pinned.checked.prog.underlying t with | some (.int k) => some k | _ => none))) = true := by kernel_rfl
theorem limb29 : ((Rows.fnIsCompactRow.pinned == Rows.fnIsCompactRow.pinnedBy)) = true := by kernel_rfl
theorem limb30 : ((Rows.fnIsCompactRow.veiled == (Tryd.f5.params.toList ++ Rows.fnIsCompactSpec.plain.varTypes Tryd.pinned.checked.prog ++ Tryd.f5.resultTypes.toList).any (Tryd.pinned.checked.prog.veiledRec ·))) = true := by kernel_rfl
theorem limb31 : (Rows.fnIsCompactRow.veiledFits Tryd.pinned.checked.prog Tryd.f5.params.toList (Tryd.f5.params.toList ++ Rows.fnIsCompactSpec.plain.varTypes Tryd.pinned.checked.prog ++ Tryd.f5.resultTypes.toList)) = true := by kernel_rfl
set_option maxRecDepth 100000 in
theorem facts : joinedFacts Tryd.pinned.checked.prog 5 Tryd.f5 Rows.fnIsCompactSpec Rows.fnIsCompactRow = true := by
  delta joinedFacts
  exact (Facts.and_t (Facts.and_t (Facts.and_t (Facts.and_t (Facts.and_t (Facts.and_t (Facts.and_t (Facts.and_t (Facts.and_t (Facts.and_t (Facts.and_t (Facts.and_t (Facts.and_t (Facts.and_t (Facts.and_t (Facts.and_t (Facts.and_t (Facts.and_t (Facts.and_t (Facts.and_t (Facts.and_t (Facts.and_t (Facts.and_t (Facts.and_t (Facts.and_t (Facts.and_t (Facts.and_t (Facts.and_t (Facts.and_t (Facts.and_t (Facts.and_t limb0 Facts.laidOut) Facts.mapsRowed_) limb3) limb4) limb5) Facts.stops) limb7) Facts.stopKnobs) limb9) limb10) limb11) limb12) limb13) limb14) limb15) limb16) limb17) limb18) limb19) limb20) limb21) Facts.plainKeys) limb23) Facts.stopsHeard) Facts.mayEnter) Facts.lifted) Facts.make) limb28) limb29) limb30) limb31)
theorem over : Rows.fnIsCompactRow.holds Tryd.pinned (OpenSpec.ofChange Rows.fnIsCompactSpec) :=
  OpenClaim.holds_of_wide 5 Tryd.f5 rfl rfl rfl rfl rfl rfl rfl ⟨rfl, rfl, rfl, rfl, rfl⟩ rfl rfl rfl rfl rfl (by kernel_rfl) Tryd.func5 facts
    (of_decide_eq_true (by kernel_rfl)) (by unfold Func.isWrapper; first | (rw [if_pos (by decide +kernel)]; kernel_rfl) | (rw [if_neg (by decide +kernel)]; exact ⟨rfl, rfl⟩))
    (fun os started H enc _ => lifted os started H enc)
theorem proved : Rows.FnIsCompactSaid := over
#print axioms proved
end Go.Proofs.YtbikiibpjdiaaaaDoor.fnIsCompact
namespace Go.Proofs.YtbikiibpjdiaaaaDoor
/-- The row, under a short name, for the claim. -/
theorem fnIsCompact_holds : Rows.FnIsCompactSaid := fnIsCompact.proved
end Go.Proofs.YtbikiibpjdiaaaaDoor
