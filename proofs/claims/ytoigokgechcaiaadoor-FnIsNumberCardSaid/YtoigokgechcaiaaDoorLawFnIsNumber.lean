-- Written by a program of this session (wip/tools/myprint.py) out of Lean's own print of the translation.
import Derived.Test.YtoigokgechcaiaaDoorRows
import Derived.Test.YtoigokgechcaiaaDoorQIv1
import Derived.Test.YtoigokgechcaiaaDoorPureFnIsNumber
import Derived.Test.YtoigokgechcaiaaDoorTie
import Derived.Test.YtoigokgechcaiaaDoorLaid
import Derived.LaidMore
import Derived.Lay
import Derived.SevenTiedAt
import Derived.Stop.Joined
import Derived.WalkKit
import Derived.ProofKit
import Derived.OpenShut
import Derived.ShutString
import Derived.ChangeOld
import Derived.Below
import Derived.ChangeVars
import Derived.SizedLaws
import Derived.Test.YtoigokgechcaiaaDoorWSized
namespace Go.Proofs.YtoigokgechcaiaaDoor.fnIsNumber
open Go.ChangeShapes Go.WideShapes Go.ChangeAt Go.RowKit
open Go.ChangeMaps (open_string shut_string)
set_option linter.unusedVariables false
theorem own : ownKnob Tryd.prog.godebug = none := by kernel_rfl
theorem laidOut : laidOutB Tryd.prog = true := by kernel_rfl
def IsRow (k : IntKind) (w : World) (a : Option Addr) (len cap : Nat) (zs : List Int) : Prop :=
  (a = none ∧ len = 0 ∧ cap = 0 ∧ zs = []) ∨
  ∃ x, a = some x ∧ len ≤ cap ∧ cap ≤ maxLen ∧ zs.length = cap ∧ (∀ i, i < zs.length → w.cell? (x.add i) = some (.int k (zs.getD i 0))) ∧ ∀ n ∈ zs, (Lit.int k n).wf = true
theorem var_below {P : Program} {B g : Nat} {W W' : World} {n : String} {cs : Array Value} (h : Below B W W') (hg : P.globalNamed n = some g) (hgB : g < B) (hv : W.var? P n = some cs) : W'.var? P n = some cs := by
  simp only [World.var?, hg, Option.bind_some] at hv ⊢
  rw [h.block g hgB]
  exact hv
set_option maxRecDepth 100000 in
theorem lifted (os : Os) (started : os.Started) (H : Type) (enc : TypeId × Value → H) :
    ReturnsInHanded {} Tryd.checked os 4 .any (fun w args => (Rows.fnIsNumberSpec.pre enc Tryd.prog Tryd.f4 Rows.fnIsNumberRow.domain false w args ∧ laidMetH Tryd.prog [("loop.example/pub-g01526/pub/gojsonnum.accepting", Rows.laid_loop_example_pub_g01526_pub_gojsonnum_accepting)] w) ∧ sizedMet enc Tryd.prog Tryd.f4 (OpenSpec.ofChange Rows.fnIsNumberSpec) false w args)
      (Rows.fnIsNumberSpec.post enc Tryd.prog Tryd.f4 false true false false) := by
  refine returnsInHanded_of_change_and (C := Tryd.checked) (X := fun w _ => laidMetH Tryd.prog [("loop.example/pub-g01526/pub/gojsonnum.accepting", Rows.laid_loop_example_pub_g01526_pub_gojsonnum_accepting)] w) (fun _ _ _ hh h => h.of_heap hh) own started (by kernel_rfl) Tryd.func4
    (ChangeSpec.witness_shaped (enc := enc) (C := Tryd.checked) (os := os) (X := fun w _ => laidMetH Tryd.prog [("loop.example/pub-g01526/pub/gojsonnum.accepting", Rows.laid_loop_example_pub_g01526_pub_gojsonnum_accepting)] w) false (World.laidAll Tryd.prog os [("loop.example/pub-g01526/pub/gojsonnum.accepting", Rows.laid_loop_example_pub_g01526_pub_gojsonnum_accepting)]) #[.slice none 0 0] 8 (World.laidAll_os _ _ _)
      (World.shaped_of_ZipB (by kernel_rfl) (by kernel_rfl)) (by kernel_rfl) (by kernel_rfl) (by kernel_rfl)
      (by rw [MakeChecks.laidMetH_plain _ _ _ (by kernel_rfl)]; exact laidMet_laidAll _ (by kernel_rfl) (by kernel_rfl))) ?_
  intro W base args ds gs before hval0 hW hcnd hsz0 hL _
  have hG := Laid.globAcc hL
  have hsz : (DataW.weightsEach Tryd.prog (Tryd.f4.params.toList ++ Rows.fnIsNumberSpec.plain.varTypes Tryd.prog) (ds ++ gs)).all (· ≤ reachBytes) = true := hsz0
  have hval : ∀ (j : Nat) t v, Tryd.f4.params[j]? = some t → args[j]? = some v → Value.okWide Tryd.prog W .any base t v := hval0
  have hW' := hW
  obtain ⟨p, q, hA0, hV, rfl, hfz, hnd⟩ := hW
  have hA : DataW.TrodAll enc Tryd.prog W 0 (fun _ => true) true Tryd.f4.params.toList args.toList ds p := hA0
  rw [Tryd.params4] at hA hval hsz
  obtain ⟨v0, vs0, d0, ds0, p0, q0, hargs, rfl, rfl, h0, r0⟩ := trodAll_cons hA
  obtain ⟨rfl, rfl, rfl⟩ := trodAll_nil r0
  obtain rfl : args = #[v0] := by cases args; simp_all
  obtain ⟨gv, tv, csv, fuelv, dv, pv, rfl, hgv, htv, hvar, hdv, rfl⟩ := trodVars_one hV
  obtain rfl := Option.some.inj ((show Tryd.prog.globalNamed "loop.example/pub-g01526/pub/gojsonnum.accepting" = some 0 by kernel_rfl).symm.trans hgv)
  obtain rfl := Option.some.inj ((show (Tryd.prog.globals[0]?).map (·.type) = some 44 by kernel_rfl).symm.trans htv)
  have hlv : ∀ x ∈ pv, x.block < W.heap.size := DataW.trod_lt fuelv _ _ _ hdv
  have h0lt : 0 < W.heap.size := by
    have h5 := hG.acc.tab 0 (by decide)
    rcases Nat.eq_zero_or_pos W.heap.size with h6 | h6
    · simp [World.cell?, Array.getElem?_eq_none (Nat.le_of_eq h6)] at h5
    · exact h6
  obtain ⟨a0, len0, cap0, rfl⟩ := okWide_slice Tryd.underlying22 (hval 0 22 v0 rfl rfl)
  have k0 := h0
  have lt0 : ∀ x ∈ p0, x.block < W.heap.size := by obtain ⟨m, hm⟩ := k0; exact DataW.trod_lt m _ _ _ hm
  obtain ⟨z0, w0⟩ : ∃ zs, IsRow .u8 W a0 len0 cap0 zs := by
    obtain ⟨fuel, hf⟩ := h0
    rcases open_ints Tryd.underlying22 Tryd.underlying5 (by kernel_rfl) hf with ⟨hcs, _⟩ | ⟨x, l, c, zs, hcs, _, hl, hm, hz, _, hcell, hwz⟩
    · simp [Value.cells] at hcs
      obtain ⟨rfl, rfl, rfl⟩ := hcs
      exact ⟨[], .inl ⟨rfl, rfl, rfl, rfl⟩⟩
    · simp [Value.cells] at hcs
      obtain ⟨rfl, rfl, rfl⟩ := hcs
      exact ⟨zs, .inr ⟨_, rfl, hl, hm, by simpa using hz, hcell, hwz⟩⟩
  have y0 : len0 * 1 ≤ 140737488351232 := Go.Proofs.YtoigokgechcaiaaDoorW.PrintWords.sized_ints hsz (j := 0) (t := 22) rfl rfl Tryd.underlying22 Tryd.underlying5 (by kernel_rfl) (by kernel_rfl) h0
  clear hA0 hval0 hsz0 hsz
  refine (QIv.laws_FnIsNumber.walk Pure.FnIsNumber a0 len0 cap0 z0 W w0 y0 hG).mono fun e W' ⟨he, bel⟩ => ?_
  subst he
  obtain ⟨fuel', hd'⟩ := Below.trod laidOut (by kernel_rfl) (of_decide_eq_true (by kernel_rfl)) (v := .agg csv) (⟨fuelv, hdv⟩ : DataW.Trod enc Tryd.prog W 0 (fun _ => true) true 44 (.agg csv) dv pv) bel hlv
  have hv' := trodVars_mk1 (enc := enc) (spare := fun b => decide (b < W.heap.size)) hgv htv (var_below bel hgv h0lt hvar) hd'
  exact ⟨_, rfl, _, _, _, [], _, _, hW', trodAll_mk1 (shut_bool Tryd.underlying4 _), (trodAll_cons_mk (Below.trod laidOut (by kernel_rfl) (of_decide_eq_true (by kernel_rfl)) k0 bel lt0) trodAll_mk0), hv', bel.frame _, fun h => by cases h⟩
theorem over : Rows.fnIsNumberRow.holds Tryd.pinned (OpenSpec.ofChange Rows.fnIsNumberSpec) :=
  OpenClaim.holds_of_wide 4 Tryd.f4 rfl rfl rfl rfl rfl rfl rfl ⟨rfl, rfl, rfl, rfl, rfl⟩ rfl rfl rfl rfl rfl (by kernel_rfl) Tryd.func4 (by kernel_rfl)
    (of_decide_eq_true (by kernel_rfl)) (by unfold Func.isWrapper; first | (rw [if_pos (by decide +kernel)]; kernel_rfl) | (rw [if_neg (by decide +kernel)]; exact ⟨rfl, rfl⟩))
    (fun os started H enc _ => lifted os started H enc)
theorem proved : Rows.FnIsNumberSaid := over
#print axioms proved
end Go.Proofs.YtoigokgechcaiaaDoor.fnIsNumber
namespace Go.Proofs.YtoigokgechcaiaaDoor
/-- The row, under a short name, for the claim. -/
theorem fnIsNumber_holds : Rows.FnIsNumberSaid := fnIsNumber.proved
end Go.Proofs.YtoigokgechcaiaaDoor
