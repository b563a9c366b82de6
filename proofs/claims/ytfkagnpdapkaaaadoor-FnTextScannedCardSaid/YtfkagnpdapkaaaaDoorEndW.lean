/- What stands behind a value, as the package tells it. -/
import Derived.Test.YtfkagnpdapkaaaaDoorScG
import Derived.Test.YtfkagnpdapkaaaaDoorScS
namespace Go.Proofs.YtfkagnpdapkaaaaDoor.Err
open Go.RowKit Go.Proofs.YtfkagnpdapkaaaaDoorW.PrintWords Go.Proofs.YtfkagnpdapkaaaaDoorW.PrintLast Go.Proofs.YtfkagnpdapkaaaaDoorW.PrintMore
open Go.Proofs.YtfkagnpdapkaaaaDoor.Dig Go.Proofs.YtfkagnpdapkaaaaDoor.Tab Go.Proofs.YtfkagnpdapkaaaaDoor.QF
set_option linter.unusedVariables false
/-- An error, or none. -/
def ErrV (w : World) (r : Option SE) (e : Ending) (w' : World) : Prop := Below w.heap.size w w' ∧ match r with
  | none => e = .returned .nilIface
  | some s => ∃ g, e = .returned (.iface 86 (.pointer (some ⟨g, 0, none⟩))) ∧ PT w' g s
/-- What stands behind a value that ends at x. -/
def endR (q : ByteArray → ByteArray) (L : List Int) (j : Int) : Option SE := if j = (L.length : Int) - 1 then none else some (faultAt q L j 5)
set_option maxRecDepth 100000 in
set_option maxHeartbeats 4000000 in
theorem validateEnd (q : ByteArray → ByteArray) (ad : Addr) (c : Nat) (L : List Int) (x : Int) (w : World) (hG : G q w) (hB : Buf w ad c L) (h0 : 0 ≤ x) (h1 : x < L.length) :
    ∃ j, RunTo isBlank L x j ∧ Calls Tryd.prog 67 #[.slice (some ad) L.length c, .int .i64 x] w (ErrV w (endR q L j)) := by
  obtain ⟨j, hr, hc⟩ := skipWs hB x h0 h1
  refine ⟨j, hr, ?_⟩
  have hsm := hB.small
  have hj0 := hr.le
  have hj1 := hr.lt
  have HC := Aside0.mk hc
  have HE : Aside0 (∀ m, Calls Tryd.prog 90 #[.slice (some ad) L.length c, .int .i64 j, .int .u8 5] (w.drewN m) (Gives (w.drewN m) (faultAt q L j 5))) := ⟨fun m => syntaxErrorAt q ad c L j 5 _ (hG.drewN m) (hB.drewN m) (by omega) hj1⟩
  clear hc hG hB hr
  by_cases hj : j = (L.length : Int) - 1
  · have e1 : (j == (L.length : Int) - 1) = true := by rw [hj]; simp
    have HR : Aside0 (endR q L j = none) := ⟨if_pos hj⟩
    clear hj
    go_enter Tryd.func67, Tryd.ntmps67
    go_wp2_with fail
    with_reducible refine HC.out.mono ?_
    rintro e w1 ⟨rfl, ⟨m, rfl⟩⟩
    go_wp2_with fail
    go_ret
    refine ⟨pw_below_drewN (Below.refl _ _) _, ?_⟩
    rw [HR.out]
    exact rfl
  · have e1 : (j == (L.length : Int) - 1) = false := beq_eq_false_iff_ne.mpr hj
    have HR : Aside0 (endR q L j = some (faultAt q L j 5)) := ⟨if_neg hj⟩
    clear hj
    go_enter Tryd.func67, Tryd.ntmps67
    go_wp2_with fail
    with_reducible refine HC.out.mono ?_
    rintro e w1 ⟨rfl, ⟨m, rfl⟩⟩
    go_wp2_with fail
    with_reducible refine (HE.out _).mono ?_
    rintro e w2 ⟨v, rfl, ⟨g, rfl, hp⟩, hb⟩
    have HP := Aside0.mk hp
    have HB := Aside0.mk hb
    clear hp hb
    go_wp2_with fail
    go_ret
    refine ⟨belowD HB.out, ?_⟩
    rw [HR.out]
    exact ⟨g, rfl, HP.out⟩
/-- What the thin package tells of an error. -/
def faultO : Option SE → Value
  | none => .tuple #[noFault, .bool true]
  | some s => .tuple #[faultV s, .bool true]
/-- A block of six cells. -/
theorem six {w : World} {b : Nat} {v0 v1 v2 v3 v4 v5 : Value} {t : TypeId} (h : w.heap[b]? = some (.cells #[v0, v1, v2, v3, v4, v5] t (0, 0))) :
    w.cell? ⟨b, 0, none⟩ = some v0 ∧ w.cell? ⟨b, 1, none⟩ = some v1 ∧ w.cell? ⟨b, 2, none⟩ = some v2 ∧ w.cell? ⟨b, 3, none⟩ = some v3 ∧ w.cell? ⟨b, 4, none⟩ = some v4 ∧ w.cell? ⟨b, 5, none⟩ = some v5 ∧
    w.frozen? ⟨b, 0, none⟩ = false ∧ w.frozen? ⟨b, 1, none⟩ = false ∧ w.frozen? ⟨b, 2, none⟩ = false ∧ w.frozen? ⟨b, 3, none⟩ = false ∧ w.frozen? ⟨b, 4, none⟩ = false ∧ w.frozen? ⟨b, 5, none⟩ = false := by
  refine ⟨?_, ?_, ?_, ?_, ?_, ?_, ?_, ?_, ?_, ?_, ?_, ?_⟩ <;> simp [World.cell?, World.frozen?, h]
theorem bsix {B : Nat} {w W : World} {v0 v1 v2 v3 v4 v5 : Value} (h : Below B w W) : Below B w ((((((W.setCell ⟨B, 0, none⟩ v0).setCell ⟨B, 1, none⟩ v1).setCell ⟨B, 2, none⟩ v2).setCell ⟨B, 3, none⟩ v3).setCell ⟨B, 4, none⟩ v4).setCell ⟨B, 5, none⟩ v5) :=
  bset (bset (bset (bset (bset (bset h (Nat.le_refl _)) (Nat.le_refl _)) (Nat.le_refl _)) (Nat.le_refl _)) (Nat.le_refl _)) (Nat.le_refl _)
end Go.Proofs.YtfkagnpdapkaaaaDoor.Err
