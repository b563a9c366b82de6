/- A nought behind bytes changes nothing of the number that begins them; what ends a number ends it for the package, too. -/
import Derived.Test.YtfkagnpdapkaaaaDoorNumP
namespace Go.Proofs.YtfkagnpdapkaaaaDoor.Dig
open Go.RowKit Go.Proofs.YtfkagnpdapkaaaaDoor.QF Go.Proofs.YtfkagnpdapkaaaaDoorW.PrintWords Go.Proofs.YtfkagnpdapkaaaaDoorW.PrintLast Go.Proofs.YtfkagnpdapkaaaaDoorW.PrintMore
theorem rd_zero (l : List Int) : rd (l ++ [0]) (l.length : Int) = 0 := rd_last l 0
theorem run_zero (l : List Int) : ∀ d i, i + d = l.length → runEnd (l ++ [0]) (d + 1) i = runEnd l d i := by
  intro d
  induction d with
  | zero =>
    intro i h
    obtain rfl : i = l.length := by omega
    unfold runEnd
    rw [rd_zero, if_neg (by decide)]
  | succ d ih =>
    intro i h
    unfold runEnd
    rw [rd_app l [0] i (by omega), ih (i + 1) (by omega)]
theorem dEnd_app (l : List Int) (i : Nat) (hi : i ≤ l.length) : dEnd (l ++ [0]) i = dEnd l i := by
  unfold dEnd
  rw [List.length_append, show l.length + [(0 : Int)].length - i = (l.length - i) + 1 by rw [List.length_singleton]; omega]
  exact run_zero l _ i (by omega)
theorem cond_app (l : List Int) (i : Nat) (hi : i ≤ l.length) (p : Int → Prop) (h0 : ¬ p 0) : (i < (l ++ [0]).length ∧ p (rd (l ++ [0]) (i : Int))) ↔ (i < l.length ∧ p (rd l (i : Int))) := by
  rw [List.length_append, List.length_singleton]
  by_cases h : i < l.length
  · rw [rd_app l [0] i h]
    exact ⟨fun h2 => ⟨h, h2.2⟩, fun h2 => ⟨by omega, h2.2⟩⟩
  · obtain rfl : i = l.length := by omega
    rw [rd_zero]
    exact ⟨fun h2 => absurd h2.2 h0, fun h2 => absurd h2.1 h⟩
theorem r6_app (l : List Int) (i : Nat) (hi : i ≤ l.length) : r6 (l ++ [0]) i = r6 l i := by unfold r6; rw [dEnd_app l i hi]
theorem r5_app (l : List Int) (i : Nat) (b : Bool) (hi : i + (if b then 1 else 0) ≤ l.length) : r5 (l ++ [0]) i b = r5 l i b := by
  unfold r5
  cases b with
  | false => rfl
  | true =>
    rw [if_pos rfl] at hi
    rw [if_pos rfl, if_pos rfl]
    have hc := cond_app l (i + 1) hi (fun c => c = 43 ∨ c = 45) (by decide)
    by_cases h : i + 1 < l.length ∧ (rd l ((i + 1 : Nat) : Int) = 43 ∨ rd l ((i + 1 : Nat) : Int) = 45)
    · rw [if_pos h, if_pos (hc.2 h), r6_app l (i + 2) (by omega)]
    · rw [if_neg h, if_neg (fun h2 => h (hc.1 h2)), r6_app l (i + 1) hi]
theorem r4_app (l : List Int) (i : Nat) (hi : i ≤ l.length) : r4 (l ++ [0]) i = r4 l i := by
  unfold r4
  have hc := cond_app l i hi (fun c => c = 101 ∨ c = 69) (by decide)
  have e : decide (i < (l ++ [0]).length ∧ (rd (l ++ [0]) (i : Int) = 101 ∨ rd (l ++ [0]) (i : Int) = 69)) = decide (i < l.length ∧ (rd l (i : Int) = 101 ∨ rd l (i : Int) = 69)) := decide_eq_decide.2 hc
  rw [e]
  refine r5_app l i _ ?_
  split
  · rename_i h
    have := (of_decide_eq_true h).1
    omega
  · omega
theorem r3_app (l : List Int) (i : Nat) (b : Bool) (hi : i + (if b then 1 else 0) ≤ l.length) : r3 (l ++ [0]) i b = r3 l i b := by
  unfold r3
  cases b with
  | false =>
    rw [if_neg (by decide), if_neg (by decide)]
    exact r4_app l i (by simpa using hi)
  | true =>
    rw [if_pos rfl] at hi
    rw [if_pos rfl, if_pos rfl, dEnd_app l (i + 1) hi, r4_app l _ (dEnd_ge l (i + 1) hi).2]
theorem r2_app (l : List Int) (i : Nat) (hi : i ≤ l.length) : r2 (l ++ [0]) i = r2 l i := by
  unfold r2
  have hc := cond_app l i hi (fun c => c = 46) (by decide)
  have e : decide (i < (l ++ [0]).length ∧ rd (l ++ [0]) (i : Int) = 46) = decide (i < l.length ∧ rd l (i : Int) = 46) := decide_eq_decide.2 hc
  rw [e]
  refine r3_app l i _ ?_
  split
  · rename_i h
    have := (of_decide_eq_true h).1
    omega
  · omega
theorem r1_app (l : List Int) (i : Nat) (hi : i ≤ l.length) : r1 (l ++ [0]) i = r1 l i := by
  unfold r1
  rw [dEnd_app l i hi]
  by_cases h : dEnd l i = i
  · rw [if_pos h, if_pos h]
  · have hlt : i < l.length := by
      by_cases h2 : i < l.length
      · exact h2
      · exact absurd (dEnd_end l i (by omega)) h
    rw [if_neg h, if_neg h, rd_app l [0] i hlt, r2_app l (i + 1) (by omega), r2_app l _ (dEnd_ge l i hi).2]
theorem scan_app (l : List Int) : scanNum (l ++ [0]) = scanNum l := by
  unfold scanNum
  have hc : (0 < (l ++ [0]).length ∧ rd (l ++ [0]) 0 = 45) ↔ (0 < l.length ∧ rd l 0 = 45) := cond_app l 0 (by omega) (fun c => c = 45) (by decide)
  by_cases h : 0 < l.length ∧ rd l 0 = 45
  · rw [if_pos h, if_pos (hc.2 h), r1_app l 1 (by omega)]
  · rw [if_neg h, if_neg (fun h2 => h (hc.1 h2)), r1_app l 0 (by omega)]
theorem r6_le (l : List Int) (i : Nat) (hi : i ≤ l.length) : (r6 l i).1 ≤ l.length := by
  unfold r6
  split
  · exact hi
  · exact (dEnd_ge l i hi).2
theorem r5_le (l : List Int) (i : Nat) (b : Bool) (hi : i + (if b then 1 else 0) ≤ l.length) : (r5 l i b).1 ≤ l.length := by
  unfold r5
  cases b with
  | false => simpa using hi
  | true =>
    rw [if_pos rfl] at hi
    rw [if_pos rfl]
    split
    · rename_i h
      exact r6_le l _ (by omega)
    · exact r6_le l _ hi
theorem r4_le (l : List Int) (i : Nat) (hi : i ≤ l.length) : (r4 l i).1 ≤ l.length := by
  unfold r4
  refine r5_le l i _ ?_
  split
  · rename_i h
    have := (of_decide_eq_true h).1
    omega
  · omega
theorem r3_le (l : List Int) (i : Nat) (b : Bool) (hi : i + (if b then 1 else 0) ≤ l.length) : (r3 l i b).1 ≤ l.length := by
  unfold r3
  cases b with
  | false =>
    rw [if_neg (by decide)]
    exact r4_le l i (by simpa using hi)
  | true =>
    rw [if_pos rfl] at hi
    rw [if_pos rfl]
    split
    · exact hi
    · exact r4_le l _ (dEnd_ge l (i + 1) hi).2
theorem r2_le (l : List Int) (i : Nat) (hi : i ≤ l.length) : (r2 l i).1 ≤ l.length := by
  unfold r2
  refine r3_le l i _ ?_
  split
  · rename_i h
    have := (of_decide_eq_true h).1
    omega
  · omega
theorem r1_le (l : List Int) (i : Nat) (hi : i ≤ l.length) : (r1 l i).1 ≤ l.length := by
  unfold r1
  split
  · exact hi
  · rename_i h
    have hlt : i < l.length := by
      by_cases h2 : i < l.length
      · exact h2
      · exact absurd (dEnd_end l i (by omega)) h
    split
    · exact r2_le l _ (by omega)
    · exact r2_le l _ (dEnd_ge l i hi).2
theorem scan_le2 (l : List Int) : (scanNum l).1 ≤ l.length := by
  unfold scanNum
  split
  · rename_i h
    exact r1_le l 1 (by omega)
  · exact r1_le l 0 (by omega)
end Go.Proofs.YtfkagnpdapkaaaaDoor.Dig
