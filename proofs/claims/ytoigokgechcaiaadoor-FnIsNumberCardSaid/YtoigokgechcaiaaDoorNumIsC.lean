/- IsValid as a contract for the print: the table of accepting states as its premise. -/
import Derived.Test.YtoigokgechcaiaaDoorNumIs
namespace Go.Proofs.YtoigokgechcaiaaDoor.AccT
open Go.RowKit Go.Proofs.YtoigokgechcaiaaDoor.Dig Go.Proofs.YtoigokgechcaiaaDoorW.PrintWords Go.Proofs.YtoigokgechcaiaaDoorW.PrintLast Go.Proofs.YtoigokgechcaiaaDoorW.PrintMore
/-- What package-level tables hold. -/
structure Glob (w : World) : Prop where
  acc : Acc w
theorem Glob.below {w w' : World} (h : Glob w) (hb : Below w.heap.size w w') : Glob w' := ⟨h.acc.below hb⟩
theorem Glob.drawn {w w' : World} (h : Glob w) (hd : Drawn0 w w') : Glob w' := h.below hd.below
def isv.f (l : List Int) : Option Bool := if l.length ≤ 1000 ∧ l.all (fun x => decide (0 ≤ x ∧ x < 256)) = true then some (decide (scanNum l = (l.length, 0))) else none
theorem isv.calls (A0 : Option Addr) (c0 : Nat) (l0 : List Int) (r : Bool) (w : World) (hr0 : Kd.C (Kd.int .u8) w A0 l0.length l0) (hc0 : l0.length ≤ c0) (hG : Glob w) (h : isv.f l0 = some r) :
    Calls Tryd.prog 17 #[.slice A0 l0.length c0] w fun e w' => e = .returned (.bool r) ∧ Below w.heap.size w w' := by
  unfold isv.f at h
  split at h
  · rename_i hh
    obtain rfl := Option.some.inj h
    rw [← dfa_scan]
    exact isValid A0 c0 l0 w hG.acc hr0 hc0 (fun x hx => by have := List.all_eq_true.1 hh.2 x hx; exact of_decide_eq_true this) hh.1
  · cases h
end Go.Proofs.YtoigokgechcaiaaDoor.AccT
