/- The row's table of accepting states, as cells. -/
import Derived.Test.YtoigokgechcaiaaDoorNumDfa
import Derived.Test.YtoigokgechcaiaaDoorRows
import Derived.Test.YtoigokgechcaiaaDoorTz
import Derived.LaidMore
import Derived.Lib.LaidTab
namespace Go.Proofs.YtoigokgechcaiaaDoor.Dig
open Go Go.RowKit
set_option linter.unusedVariables false
/-- The table of accepting states stands where the variable lies. -/
structure Acc (w : World) : Prop where
  tab : ∀ i, i < 10 → w.cell? ⟨0, i, none⟩ = some (.bool (okS i))
theorem Acc.below {w w' : World} (h : Acc w) (hb : Below w.heap.size w w') : Acc w' := ⟨fun i hi => Go.Proofs.YtoigokgechcaiaaDoorW.PrintWords.pw_cell_below hb (h.tab i hi)⟩
theorem cells_of_bools {H : Type} {enc : TypeId × Value → H} {P : Program} {w : World} {base : Nat} {sp : Nat → Bool} {held : Bool} {fuel : Nat} {t e : TypeId} {n : Nat} {cs : List Value} {zs : List Bool} {p : List MemPlace}
    (ht : P.underlying t = some (.array n e)) (he : P.underlying e = some .bool) (hce : P.cellsOf e = 1) (hct : P.cellsOf t = n)
    (h : DataW.trod enc P w base sp held fuel t cs = some (.agg (zs.map fun z => .lit (.bool z)), p)) : cs = zs.map fun z => Value.bool z := by
  cases fuel with
  | zero => simp [DataW.trod] at h
  | succ fuel =>
    simp only [DataW.trod, ht, hce, hct, Nat.mul_one] at h
    split at h
    · rename_i hl
      obtain ⟨xs, hm, hx⟩ := Option.map_eq_some_iff.1 h
      have hxs : xs.map (·.1) = zs.map fun z => (DataW.lit (.bool z) : DataW H) := by
        have := congrArg Prod.fst hx
        simpa using this
      have hxl : xs.length = n := by simpa using Lib.mapM_length hm
      have hzl : zs.length = n := by
        have := congrArg List.length hxs
        simp at this
        omega
      apply List.ext_getElem?
      intro i
      by_cases hi : i < n
      · obtain ⟨b, hb, hf⟩ := Lib.mapM_at hm i i (by simp [hi])
        obtain ⟨z, hc, rfl⟩ := DataW.trod_bool he hf
        have h1 : cs[i]? = some (.bool z) := by
          have := congrArg (·[0]?) hc
          simpa [List.getElem?_take, List.getElem?_drop] using this
        have h2 : (xs.map (·.1))[i]? = some (DataW.lit (.bool z) : DataW H) := by simp [hb]
        rw [hxs] at h2
        simp only [List.getElem?_map, Option.map_eq_some_iff, DataW.lit.injEq, Lit.bool.injEq] at h2
        obtain ⟨z', hz', rfl⟩ := h2
        simp [h1, hz']
      · rw [List.getElem?_eq_none (by omega), List.getElem?_eq_none (by simp; omega)]
    · cases h
theorem laidAcc {W : World} (h : laidMetH Tryd.prog [("loop.example/pub-g01526/pub/gojsonnum.accepting", Rows.laid_loop_example_pub_g01526_pub_gojsonnum_accepting)] W) : Acc W := by
  rw [MakeChecks.laidMetH_plain _ _ _ (by kernel_rfl)] at h
  obtain ⟨ps, ⟨g', t', cs, fuel, p, q, hg', ht', hvar, hd, _, _⟩, _⟩ := h
  have hg : Tryd.prog.globalNamed "loop.example/pub-g01526/pub/gojsonnum.accepting" = some 0 := by kernel_rfl
  have hty : (Tryd.prog.globals[0]?).map (·.type) = some 44 := by kernel_rfl
  obtain rfl := Option.some.inj (hg.symm.trans hg')
  obtain rfl := Option.some.inj (hty.symm.trans ht')
  have hcs := cells_of_bools (zs := [false, false, true, true, false, true, false, false, true, false]) Tryd.underlying44 Tryd.underlying4 (by kernel_rfl) (by kernel_rfl) hd
  refine ⟨fun i hi => ?_⟩
  have hc := World.var?_cell hg hvar i
  rw [hc, ← Array.getElem?_toList, hcs]
  rcases (show i = 0 ∨ i = 1 ∨ i = 2 ∨ i = 3 ∨ i = 4 ∨ i = 5 ∨ i = 6 ∨ i = 7 ∨ i = 8 ∨ i = 9 by omega) with rfl | rfl | rfl | rfl | rfl | rfl | rfl | rfl | rfl | rfl <;> rfl
end Go.Proofs.YtoigokgechcaiaaDoor.Dig
