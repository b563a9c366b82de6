/- A parameter that is an array of bytes: opened and shut. -/
import Derived.Test.YtfkagnpdapkaaaaDoorMaskL
import Derived.Test.YtfkagnpdapkaaaaDoorScG
import Derived.OpenShut
import Derived.ShutString
import Derived.ChangeShapes
namespace Go.Proofs.YtfkagnpdapkaaaaDoor.Err
open Go.RowKit Go.ChangeShapes Go.Proofs.YtfkagnpdapkaaaaDoorW.PrintWords Go.Proofs.YtfkagnpdapkaaaaDoorW.PrintLast Go.Proofs.YtfkagnpdapkaaaaDoorW.PrintMore
open Go.Proofs.YtfkagnpdapkaaaaDoor.Dig Go.Proofs.YtfkagnpdapkaaaaDoor.Tab
set_option linter.unusedVariables false
section
variable {H : Type} {enc : TypeId × Value → H} {P : Program} {W : World} {base : Nat} {sp : Nat → Bool} {held : Bool}
theorem trod_int_same {e : TypeId} {k : IntKind} (he : P.underlying e = some (.int k)) (m : Nat) (cs : List Value) (W' : World) (sp' : Nat → Bool) : DataW.trod enc P W base sp held m e cs = DataW.trod enc P W' base sp' held m e cs := by
  cases m with
  | zero => rfl
  | succ m =>
    rcases cs with _ | ⟨v, _ | ⟨u, r⟩⟩
    · simp [DataW.trod, he]
    · cases v <;> simp [DataW.trod, he]
    · simp [DataW.trod, he]
theorem mapM_ints {e : TypeId} {k : IntKind} (he : P.underlying e = some (.int k)) {m c : Nat} {cs : List Value} : ∀ (L : List Nat) (xs : List (DataW H × List MemPlace)),
    L.mapM (fun i => DataW.trod enc P W base sp held m e ((cs.drop (i * c)).take c)) = some xs →
    (∀ x ∈ xs, x.2 = []) ∧ ∀ i ∈ L, ∃ n, (cs.drop (i * c)).take c = [.int k n] ∧ (Lit.int k n).wf = true
  | [], xs, h => by
    simp at h
    subst h
    exact ⟨fun x hx => by simp at hx, fun i hi => by simp at hi⟩
  | i :: L, xs, h => by
    rw [List.mapM_cons] at h
    simp only [bind, Option.bind_eq_some_iff, pure, Option.some.injEq] at h
    obtain ⟨y, hy, ys, hys, rfl⟩ := h
    obtain ⟨h1, h2⟩ := mapM_ints he L ys hys
    obtain ⟨a, ea, rfl, wa⟩ := DataW.trod_int he hy
    refine ⟨fun x hx => ?_, fun j hj => ?_⟩
    · rcases List.mem_cons.1 hx with rfl | hx
      · rfl
      · exact h1 x hx
    · rcases List.mem_cons.1 hj with rfl | hj
      · exact ⟨a, ea, wa⟩
      · exact h2 j hj
theorem open_bytes {t e : TypeId} {n : Nat} {r : Reach} {b0 : Nat} {v : Value} {d : DataW H} {ps : List MemPlace} (ht : P.underlying t = some (.array n e)) (he : P.underlying e = some (.int .u8)) (hc : P.cellsOf t = n) (h1 : P.cellsOf e = 1)
    (hval : Value.okWide P W r b0 t v) (hd : DataW.Trod enc P W base sp held t v d ps) :
    ∃ l : List Int, v = arrV l ∧ l.length = n ∧ Bytes l ∧ ps = [] ∧ ∀ W' sp', DataW.Trod enc P W' base sp' held t v d [] := by
  obtain ⟨cs, rfl, hsz, _⟩ : ∃ cs, v = .agg cs ∧ cs.size = P.cellsOf t ∧ Row.okWide P W r b0 t cs := by simpa [Value.okWide, ht] using hval
  rw [hc] at hsz
  obtain ⟨fuel, hf⟩ := hd
  cases fuel with
  | zero => simp [DataW.trod] at hf
  | succ m =>
    have hk : ∀ W' sp', DataW.trod enc P W' base sp' held (m + 1) t (Value.agg cs).cells.toList = some (d, ps) := fun W' sp' => by
      rw [← hf]
      rw [DataW.trod_step, DataW.trod_step]
      unfold DataW.trodStep
      simp only [ht]
      simp only [trod_int_same (W := W) (sp := sp) he m _ W' sp']
    rw [DataW.trod_step] at hf
    unfold DataW.trodStep at hf
    simp only [ht, Value.cells] at hf
    rw [if_pos (by rw [hc]; simpa using hsz)] at hf
    simp only [Option.map_eq_some_iff] at hf
    obtain ⟨ys, hy, e1⟩ := hf
    obtain ⟨g1, g2⟩ := mapM_ints he _ ys hy
    rw [h1] at g2
    have hps : ps = [] := by
      have : ps = ys.flatMap (·.2) := (Prod.mk.inj e1).2.symm
      rw [this, List.flatMap_eq_nil_iff]
      exact g1
    have hget : ∀ i (h : i < cs.toList.length), ∃ x : Int, cs.toList[i] = .int .u8 x ∧ (Lit.int .u8 x).wf = true := fun i h => by
      obtain ⟨x, ex, wx⟩ := g2 i (List.mem_range.2 (by rw [← hsz]; simpa using h))
      refine ⟨x, ?_, wx⟩
      rw [Nat.mul_one] at ex
      have : (cs.toList.drop i)[0]? = some (.int .u8 x) := by
        have h2 : ((cs.toList.drop i).take 1)[0]? = some (.int .u8 x) := by rw [ex]; rfl
        rwa [List.getElem?_take_of_lt (by decide)] at h2
      rw [List.getElem?_drop, Nat.add_zero, List.getElem?_eq_getElem h] at this
      exact Option.some.inj this
    have hl : ∀ xs : List Value, (∀ i (h : i < xs.length), ∃ x : Int, xs[i] = .int .u8 x ∧ (Lit.int .u8 x).wf = true) → ∃ l : List Int, xs = nums .u8 l ∧ Bytes l := by
      intro xs
      induction xs with
      | nil => exact fun _ => ⟨[], rfl, fun x hx => by cases hx⟩
      | cons a r ih =>
        intro h
        obtain ⟨x, ex, wx⟩ := h 0 (by simp)
        obtain ⟨l, el, hb⟩ := ih fun i hi => by
          have := h (i + 1) (by simpa using hi)
          simpa using this
        simp only [List.getElem_cons_zero] at ex
        refine ⟨x :: l, by rw [ex, el]; simp [nums], fun y hy => ?_⟩
        rcases List.mem_cons.1 hy with rfl | hy
        · have h2 : (decide (IntKind.u8.min ≤ y) && decide (y ≤ IntKind.u8.max)) = true := wx
          rw [Bool.and_eq_true] at h2
          have h3 : (0 : Int) ≤ y := of_decide_eq_true h2.1
          have h4 : y ≤ 255 := of_decide_eq_true h2.2
          omega
        · exact hb y hy
    obtain ⟨l, el, hb⟩ := hl cs.toList hget
    refine ⟨l, ?_, ?_, hb, hps, fun W' sp' => ⟨m + 1, by rw [hk W' sp', hps]⟩⟩
    · unfold arrV
      rw [← el]
    · have : cs.toList.length = l.length := by rw [el]; simp [nums]
      rw [← this, ← hsz]
      simp
end
theorem masks_walk (l : List Int) (w : World) (h64 : l.length = 64) (hb : Bytes l) (hG : G Laid.goQ w) :
    Calls Tryd.prog 4 #[arrV l] w fun e w' => e = .returned (.bool true) ∧ Below w.heap.size w w' := masksLaw Laid.goQ l w hG hb h64
end Go.Proofs.YtfkagnpdapkaaaaDoor.Err
