/- A number of RFC 8259 by a table of states, a byte at a time: it is accepted just where the longest number is all of the bytes. Plain Lean. -/
import Derived.Test.YtoigokgechcaiaaDoorNumScan
namespace Go.Proofs.YtoigokgechcaiaaDoor.Dig
open Go.RowKit Go.Proofs.YtoigokgechcaiaaDoorW.PrintWords Go.Proofs.YtoigokgechcaiaaDoorW.PrintLast Go.Proofs.YtoigokgechcaiaaDoorW.PrintMore
set_option linter.unusedVariables false
/-- The state behind a byte: 0 ahead of the sign, 1 behind it, 2 behind a nought, 3 in the digits, 4 behind the point, 5 in the fraction, 6 behind e, 7 behind its sign, 8 in its digits, 9 none. -/
def del (s : Nat) (c : Int) : Nat :=
  match s with
  | 0 => if c = 45 then 1 else if c = 48 then 2 else if isD c then 3 else 9
  | 1 => if c = 48 then 2 else if isD c then 3 else 9
  | 2 => if c = 46 then 4 else if c = 101 ∨ c = 69 then 6 else 9
  | 3 => if isD c then 3 else if c = 46 then 4 else if c = 101 ∨ c = 69 then 6 else 9
  | 4 => if isD c then 5 else 9
  | 5 => if isD c then 5 else if c = 101 ∨ c = 69 then 6 else 9
  | 6 => if c = 43 ∨ c = 45 then 7 else if isD c then 8 else 9
  | 7 => if isD c then 8 else 9
  | 8 => if isD c then 8 else 9
  | _ => 9
def okS (s : Nat) : Bool := s == 2 || s == 3 || s == 5 || s == 8
/-- The state behind the d bytes from i on. -/
def runS (l : List Int) : Nat → Nat → Nat → Nat
  | 0, i, s => s
  | d + 1, i, s => runS l d (i + 1) (del s (rd l (i : Int)))
/-- Whether the bytes from i on are accepted. -/
def acc (l : List Int) (i s : Nat) : Bool := okS (runS l (l.length - i) i s)
section
variable {l : List Int}
theorem acc_end {i s : Nat} (h : l.length ≤ i) : acc l i s = okS s := by
  unfold acc
  rw [show l.length - i = 0 by omega]
  rfl
theorem acc_step {i s : Nat} (h : i < l.length) : acc l i s = acc l (i + 1) (del s (rd l (i : Int))) := by
  unfold acc
  obtain ⟨d, hd⟩ : ∃ d, l.length - i = d + 1 := ⟨l.length - i - 1, by omega⟩
  rw [hd, show l.length - (i + 1) = d by omega]
  rfl
theorem acc_none : ∀ d i : Nat, l.length - i = d → acc l i 9 = false
  | 0, i, h => by rw [acc_end (by omega)]; rfl
  | d + 1, i, h => by rw [acc_step (by omega)]; exact acc_none d (i + 1) (by omega)
/-- A state that digits keep: to where they end. -/
theorem acc_run (s : Nat) (hs : ∀ c, isD c = true → del s c = s) : ∀ d i : Nat, l.length - i = d → i ≤ l.length → acc l i s = acc l (dEnd l i) s
  | 0, i, h, hi => by rw [dEnd_end l i (by omega)]
  | d + 1, i, h, hi => by
    rw [dEnd_step l i (by omega)]
    by_cases hd : isD (rd l (i : Int)) = true
    · rw [if_pos hd, acc_step (by omega), hs _ hd]
      exact acc_run s hs d (i + 1) (by omega) (by omega)
    · rw [if_neg hd]
theorem dEnd_le {i : Nat} (hi : i ≤ l.length) : dEnd l i ≤ l.length := (dEnd_ge l i hi).2
/-- Behind a run of digits stands none, or nothing. -/
theorem dEnd_stop : ∀ d i : Nat, l.length - i = d → i ≤ l.length → dEnd l i < l.length → isD (rd l (dEnd l i : Int)) = false
  | 0, i, h, hi, h2 => by rw [dEnd_end l i (by omega)] at h2; omega
  | d + 1, i, h, hi, h2 => by
    rw [dEnd_step l i (by omega)] at h2 ⊢
    by_cases hd : isD (rd l (i : Int)) = true
    · rw [if_pos hd] at h2 ⊢
      exact dEnd_stop d (i + 1) (by omega) (by omega) h2
    · rw [if_neg hd]
      exact Bool.eq_false_iff.mpr hd
theorem e8 {i : Nat} (hi : i ≤ l.length) : acc l i 8 = decide (dEnd l i = l.length) := by
  rw [acc_run 8 (fun c h => by simp [del, h]) _ i rfl hi]
  by_cases h : dEnd l i < l.length
  · rw [acc_step h, show del 8 (rd l (dEnd l i : Int)) = 9 by simp [del, dEnd_stop _ i rfl hi h], acc_none _ _ rfl, decide_eq_false (by omega)]
  · have := dEnd_le hi
    rw [acc_end (by omega), decide_eq_true (by omega)]
    rfl
/-- Digits, one at least, and nothing behind them. -/
theorem e7 {i s : Nat} (hi : i ≤ l.length) (hs : ∀ c, del s c = if isD c then 8 else 9) (hok : okS s = false) : acc l i s = decide (r6 l i = (l.length, 0)) := by
  unfold r6
  by_cases h : i < l.length
  · rw [acc_step h, hs]
    by_cases hd : isD (rd l (i : Int)) = true
    · have hg := dEnd_gt l i h hd
      rw [if_pos hd, if_neg (by omega), e8 (by omega), dEnd_step l i h, if_pos hd]
      simp
    · rw [if_neg hd, acc_none _ _ rfl, dEnd_step l i h, if_neg hd, if_pos rfl]
      simp
  · rw [acc_end (by omega), hok, dEnd_end l i (by omega), if_pos rfl]
    simp
theorem del7 (c : Int) : del 7 c = if isD c then 8 else 9 := rfl
/-- Behind e. -/
theorem e6 {i : Nat} (hi : i < l.length) : acc l (i + 1) 6 = decide (r5 l i true = (l.length, 0)) := by
  unfold r5
  rw [if_pos rfl]
  by_cases h : i + 1 < l.length ∧ (rd l ((i + 1 : Nat) : Int) = 43 ∨ rd l ((i + 1 : Nat) : Int) = 45)
  · rw [if_pos h, acc_step h.1, show del 6 (rd l ((i + 1 : Nat) : Int)) = 7 from if_pos h.2]
    exact e7 (by omega) del7 rfl
  · rw [if_neg h]
    by_cases h2 : i + 1 < l.length
    · have hn : ¬ (rd l ((i + 1 : Nat) : Int) = 43 ∨ rd l ((i + 1 : Nat) : Int) = 45) := fun h3 => h ⟨h2, h3⟩
      have h7 := e7 (l := l) (i := i + 1) (s := 7) (by omega) del7 rfl
      rw [← h7, acc_step h2, acc_step h2, del7, show del 6 (rd l ((i + 1 : Nat) : Int)) = if isD (rd l ((i + 1 : Nat) : Int)) then 8 else 9 from if_neg hn]
    · have h7 := e7 (l := l) (i := i + 1) (s := 7) (by omega) del7 rfl
      rw [← h7, acc_end (by omega), acc_end (by omega)]
      rfl
/-- An exponent, or nothing. -/
theorem e4 {j s : Nat} (hj : j ≤ l.length) (hd : j < l.length → isD (rd l (j : Int)) = false) (hs : ∀ c, isD c = false → c ≠ 46 → del s c = if c = 101 ∨ c = 69 then 6 else 9) (hp : j < l.length → rd l (j : Int) ≠ 46) (hok : okS s = true) : acc l j s = decide (r4 l j = (l.length, 0)) := by
  unfold r4
  by_cases h : j < l.length
  · rw [acc_step h, hs _ (hd h) (hp h)]
    by_cases he : rd l (j : Int) = 101 ∨ rd l (j : Int) = 69
    · rw [if_pos he, e6 h, decide_eq_true (p := j < l.length ∧ _) ⟨h, he⟩]
    · rw [if_neg he, acc_none _ _ rfl, decide_eq_false (p := j < l.length ∧ _) (fun h2 => he h2.2)]
      unfold r5
      rw [if_neg (by decide)]
      exact (decide_eq_false (by simp; omega)).symm
  · rw [acc_end (by omega), hok, decide_eq_false (p := j < l.length ∧ _) (fun h2 => h h2.1)]
    unfold r5
    rw [if_neg (by decide)]
    exact (decide_eq_true (by simp; omega)).symm
/-- In a fraction. -/
theorem e5 {i : Nat} (hi : i ≤ l.length) : acc l i 5 = acc l (dEnd l i) 5 := acc_run 5 (fun c h => by simp [del, h]) _ i rfl hi
/-- Behind the point: digits, one at least, and an exponent, or nothing. -/
theorem e3 {i : Nat} (hi : i < l.length) : acc l (i + 1) 4 = decide (r3 l i true = (l.length, 0)) := by
  unfold r3
  rw [if_pos rfl]
  by_cases h : i + 1 < l.length
  · rw [acc_step h]
    by_cases hd : isD (rd l ((i + 1 : Nat) : Int)) = true
    · have hg := dEnd_gt l (i + 1) h hd
      have hle := dEnd_le (l := l) (i := i + 1) (by omega)
      have e : dEnd l (i + 1) = dEnd l (i + 1 + 1) := by rw [dEnd_step l (i + 1) h, if_pos hd]
      rw [if_neg (by omega), show del 4 (rd l ((i + 1 : Nat) : Int)) = 5 from if_pos hd, e5 (by omega), ← e]
      by_cases h5 : dEnd l (i + 1) < l.length ∧ rd l (dEnd l (i + 1) : Int) = 46
      · rw [acc_step h5.1, h5.2, show del 5 46 = 9 from rfl, acc_none _ _ rfl]
        unfold r4
        have hz : decide (dEnd l (i + 1) < l.length ∧ (rd l (dEnd l (i + 1) : Int) = 101 ∨ rd l (dEnd l (i + 1) : Int) = 69)) = false := decide_eq_false fun h6 => by
          have h7 := h6.2
          rw [h5.2] at h7
          omega
        rw [hz]
        unfold r5
        rw [if_neg (by decide)]
        exact (decide_eq_false (by simp; omega)).symm
      · exact e4 hle (fun h2 => dEnd_stop _ _ rfl (by omega) h2) (fun c h3 h4 => by simp [del, h3]) (fun h2 h3 => h5 ⟨h2, h3⟩) rfl
    · rw [show del 4 (rd l ((i + 1 : Nat) : Int)) = 9 from if_neg hd, acc_none _ _ rfl, dEnd_step l (i + 1) h, if_neg hd, if_pos rfl]
      exact (decide_eq_false (by simp)).symm
  · rw [acc_end (by omega), dEnd_end l (i + 1) (by omega), if_pos rfl]
    exact (decide_eq_false (by simp)).symm
/-- Behind the integer: a fraction, or none. -/
theorem e2 {j s : Nat} (hj : j ≤ l.length) (hd : j < l.length → s = 3 → isD (rd l (j : Int)) = false) (hs : s = 2 ∨ s = 3) : acc l j s = decide (r2 l j = (l.length, 0)) := by
  unfold r2
  by_cases h : j < l.length ∧ rd l (j : Int) = 46
  · rw [acc_step h.1, h.2, show del s 46 = 4 by rcases hs with rfl | rfl <;> rfl, e3 h.1]
    rw [decide_eq_true (p := j < l.length ∧ _) ⟨h.1, rfl⟩]
  · rw [decide_eq_false h]
    unfold r3
    rw [if_neg (by decide)]
    rcases hs with rfl | rfl
    · by_cases hdd : j < l.length ∧ isD (rd l (j : Int)) = true
      · have hn : ¬ (rd l (j : Int) = 101 ∨ rd l (j : Int) = 69) := by have := (isD_iff _).1 hdd.2; omega
        have hn2 : rd l (j : Int) ≠ 46 := by have := (isD_iff _).1 hdd.2; omega
        rw [acc_step hdd.1, show del 2 (rd l (j : Int)) = 9 by simp [del, hn2]; omega, acc_none _ _ rfl]
        unfold r4
        rw [decide_eq_false (p := j < l.length ∧ _) (fun h2 => hn h2.2)]
        unfold r5
        rw [if_neg (by decide)]
        exact (decide_eq_false (by simp; omega)).symm
      · exact e4 hj (fun h2 => Bool.eq_false_iff.mpr fun h3 => hdd ⟨h2, h3⟩) (fun c h3 h4 => by simp [del, h4]) (fun h2 h3 => h ⟨h2, h3⟩) rfl
    · exact e4 hj (fun h2 => hd h2 rfl) (fun c h3 h4 => by simp [del, h3, h4]) (fun h2 h3 => h ⟨h2, h3⟩) rfl
/-- Ahead of the integer. -/
theorem e1 {i s : Nat} (hi : i ≤ l.length) (hs : ∀ c, c ≠ 45 → del s c = if c = 48 then 2 else if isD c then 3 else 9) (hm : i < l.length → (rd l (i : Int) ≠ 45 ∨ ∀ c, del s c = if c = 48 then 2 else if isD c then 3 else 9)) (hok : okS s = false) : acc l i s = decide (r1 l i = (l.length, 0)) := by
  unfold r1
  by_cases h : i < l.length
  · have hds : del s (rd l (i : Int)) = if rd l (i : Int) = 48 then 2 else if isD (rd l (i : Int)) then 3 else 9 := by
      rcases hm h with h2 | h2
      · exact hs _ h2
      · exact h2 _
    rw [acc_step h, hds]
    by_cases hd : isD (rd l (i : Int)) = true
    · have hg := dEnd_gt l i h hd
      rw [if_neg (show ¬ dEnd l i = i by omega)]
      by_cases h0 : rd l (i : Int) = 48
      · rw [if_pos h0, if_pos h0]
        exact e2 (by omega) (fun _ h3 => by omega) (.inl rfl)
      · rw [if_neg h0, if_neg h0, if_pos hd, acc_run 3 (fun c h => by simp [del, h]) _ (i + 1) rfl (by omega)]
        have e : dEnd l i = dEnd l (i + 1) := by rw [dEnd_step l i h, if_pos hd]
        rw [e]
        exact e2 (dEnd_le (by omega)) (fun h2 _ => dEnd_stop _ _ rfl (by omega) h2) (.inr rfl)
    · have h0 : rd l (i : Int) ≠ 48 := fun h0 => hd (by rw [h0]; rfl)
      rw [if_neg h0, if_neg hd, acc_none _ _ rfl, dEnd_step l i h, if_neg hd, if_pos rfl]
      exact (decide_eq_false (by simp)).symm
  · rw [acc_end (by omega), hok, dEnd_end l i (by omega), if_pos rfl]
    exact (decide_eq_false (by simp)).symm
/-- The table of states accepts just what is one number. -/
theorem dfa_scan (l : List Int) : acc l 0 0 = decide (scanNum l = (l.length, 0)) := by
  unfold scanNum
  have hs : ∀ c, c ≠ 45 → del 0 c = if c = 48 then 2 else if isD c then 3 else 9 := fun c hc => by simp [del, hc]
  by_cases h : 0 < l.length ∧ rd l 0 = 45
  · rw [if_pos h, acc_step h.1]
    have e : rd l ((0 : Nat) : Int) = 45 := h.2
    rw [e, show del 0 45 = 1 from rfl]
    exact e1 (s := 1) (by omega) (fun c _ => rfl) (fun _ => .inr fun c => rfl) rfl
  · rw [if_neg h]
    exact e1 (s := 0) (by omega) hs (fun h2 => .inl fun h3 => h ⟨h2, h3⟩) rfl
end
end Go.Proofs.YtoigokgechcaiaaDoor.Dig
