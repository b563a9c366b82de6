/- What a number of RFC 8259 is, over lists of bytes, place by place: the longest one that begins them, or where it is invalid; plain definitions. -/
import Derived.Test.YtoigokgechcaiaaDoorRun
namespace Go.Proofs.YtoigokgechcaiaaDoor.Dig
open Go.RowKit Go.Proofs.YtoigokgechcaiaaDoorW.PrintWords Go.Proofs.YtoigokgechcaiaaDoorW.PrintLast Go.Proofs.YtoigokgechcaiaaDoorW.PrintMore
/-- Where the digits from a place on end. -/
def dEnd (l : List Int) (i : Nat) : Nat := runEnd l (l.length - i) i
def r6 (l : List Int) (i : Nat) : Nat × Nat := if dEnd l i = i then (i, 3) else (dEnd l i, 0)
def r5 (l : List Int) (i : Nat) (b : Bool) : Nat × Nat := if b then (if i + 1 < l.length ∧ (rd l ((i + 1 : Nat) : Int) = 43 ∨ rd l ((i + 1 : Nat) : Int) = 45) then r6 l (i + 2) else r6 l (i + 1)) else (i, 0)
def r4 (l : List Int) (i : Nat) : Nat × Nat := r5 l i (decide (i < l.length ∧ (rd l (i : Int) = 101 ∨ rd l (i : Int) = 69)))
def r3 (l : List Int) (i : Nat) (b : Bool) : Nat × Nat := if b then (if dEnd l (i + 1) = i + 1 then (i + 1, 2) else r4 l (dEnd l (i + 1))) else r4 l i
def r2 (l : List Int) (i : Nat) : Nat × Nat := r3 l i (decide (i < l.length ∧ rd l (i : Int) = 46))
def r1 (l : List Int) (i : Nat) : Nat × Nat := if dEnd l i = i then (i, 1) else if rd l (i : Int) = 48 then r2 l (i + 1) else r2 l (dEnd l i)
/-- The longest number that begins bytes, and 0; or where it is invalid, and 1, 2 or 3. -/
def scanNum (l : List Int) : Nat × Nat := if 0 < l.length ∧ rd l 0 = 45 then r1 l 1 else r1 l 0
def z2 (p : Nat × Nat) : Int × Int := ((p.1 : Int), (p.2 : Int))
theorem dEnd_step (l : List Int) (i : Nat) (h : i < l.length) : dEnd l i = if isD (rd l (i : Int)) = true then dEnd l (i + 1) else i := by
  unfold dEnd
  obtain ⟨d, hd⟩ : ∃ d, l.length - i = d + 1 := ⟨l.length - i - 1, by omega⟩
  rw [hd, show l.length - (i + 1) = d by omega]
  rfl
theorem dEnd_end (l : List Int) (i : Nat) (h : l.length ≤ i) : dEnd l i = i := by unfold dEnd; rw [show l.length - i = 0 by omega]; rfl
theorem dEnd_ge (l : List Int) (i : Nat) (h : i ≤ l.length) : i ≤ dEnd l i ∧ dEnd l i ≤ l.length := by
  have := runEnd_ge l (l.length - i) i
  unfold dEnd; omega
theorem dEnd_gt (l : List Int) (i : Nat) (h : i < l.length) (hd : isD (rd l (i : Int)) = true) : i < dEnd l i := by
  rw [dEnd_step l i h, if_pos hd]
  have := dEnd_ge l (i + 1) (by omega)
  omega
theorem isD_iff (c : Int) : isD c = true ↔ 48 ≤ c ∧ c ≤ 57 := by simp [isD]
end Go.Proofs.YtoigokgechcaiaaDoor.Dig
