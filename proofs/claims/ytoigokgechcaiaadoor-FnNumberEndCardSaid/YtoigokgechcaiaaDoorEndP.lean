/- The package's search for the end of a number comes to what the walk over the number tells; plain lemmas. -/
import Derived.Test.YtoigokgechcaiaaDoorNumP
namespace Go.Proofs.YtoigokgechcaiaaDoor.Dig
open Go.RowKit Go.Proofs.YtoigokgechcaiaaDoor.QNm Go.Proofs.YtoigokgechcaiaaDoorW.PrintWords Go.Proofs.YtoigokgechcaiaaDoorW.PrintLast Go.Proofs.YtoigokgechcaiaaDoorW.PrintMore
/-- The end that is told: none at an invalid number, and at one that the bytes end with. -/
def fin (l : List Int) (p : Nat × Nat) : Int := if p.2 = 0 ∧ p.1 ≠ l.length then (p.1 : Int) else -1
theorem fin_bad (l : List Int) (i n : Nat) (h : n ≠ 0) : fin l (i, n) = -1 := if_neg (fun h2 => h h2.1)
theorem fin_ok (l : List Int) (i : Nat) : fin l (i, 0) = if (i : Int) = (l.length : Int) then -1 else (i : Int) := by
  unfold fin
  by_cases h : i = l.length
  · rw [if_neg (fun h2 => h2.2 h), if_pos (by omega)]
  · rw [if_pos ⟨rfl, h⟩, if_neg (by omega)]
theorem e7 (l : List Int) (hb : Bytes l) (hl : l.length ≤ 1000) (i k : Nat) (hi : i ≤ l.length) (hk : 1013 < k) : gojsonnum_End.j7 k l (i : Int) = some (fin l (r6 l i)) := by
  obtain ⟨k, rfl⟩ : ∃ m, k = m + 1 + 1 := ⟨k - 2, by omega⟩
  have ht : gojsonnum_End.j8 (k + 1) l (i : Int) true = some (-1) := by rw [gojsonnum_End.j8]; exact if_pos rfl
  rw [gojsonnum_End.j7]
  unfold r6
  by_cases h : i = l.length
  · rw [if_pos (by omega), ht, if_pos (dEnd_end l i (by omega)), fin_bad l i 3 (by decide)]
  · rw [if_neg (by omega), if_pos (by omega), if_pos (by omega)]
    have hs := dEnd_step l i (by omega)
    by_cases hd : isD (rd l (i : Int)) = true
    · have h2 := (isD_iff _).1 hd
      have hgt : i < dEnd l i := dEnd_gt l i (by omega) hd
      have hn := dEnd_next l i hi (by omega)
      rw [if_neg (show ¬ rd l (i : Int) < 48 by omega), decide_eq_false (show ¬ 57 < rd l (i : Int) by omega), gojsonnum_End.j8, if_neg Bool.false_ne_true, ws i (by omega), scn l hb hl (i + 1) k (by omega) (by omega), Option.bind_some, hn.2, if_neg (show ¬ dEnd l i = i by omega), fin_ok]
      split <;> rfl
    · rw [if_neg hd] at hs
      rw [if_pos hs, fin_bad l i 3 (by decide)]
      have h2 : ¬ (48 ≤ rd l (i : Int) ∧ rd l (i : Int) ≤ 57) := fun h => hd ((isD_iff _).2 h)
      by_cases h3 : rd l (i : Int) < 48
      · rw [if_pos h3, ht]
      · rw [if_neg h3, decide_eq_true (by omega), ht]
theorem e6 (l : List Int) (hb : Bytes l) (hl : l.length ≤ 1000) (i k : Nat) (b : Bool) (hi : i + (if b then 1 else 0) ≤ l.length) (hk : 1014 < k) : gojsonnum_End.j6 k l (i : Int) b = some (fin l (r6 l (i + if b then 1 else 0))) := by
  obtain ⟨k, rfl⟩ : ∃ m, k = m + 1 := ⟨k - 1, by omega⟩
  rw [gojsonnum_End.j6]
  cases b with
  | true =>
    simp only [if_true] at hi ⊢
    rw [ws i (by omega)]
    exact e7 l hb hl (i + 1) k hi (by omega)
  | false => exact e7 l hb hl i k (by simpa using hi) (by omega)
theorem e5 (l : List Int) (hb : Bytes l) (hl : l.length ≤ 1000) (i k : Nat) (b : Bool) (hi : i + (if b then 1 else 0) ≤ l.length) (hk : 1015 < k) : gojsonnum_End.j5 k l (i : Int) b = some (fin l (r5 l i b)) := by
  obtain ⟨k, rfl⟩ : ∃ m, k = m + 1 := ⟨k - 1, by omega⟩
  rw [gojsonnum_End.j5]
  cases b with
  | false =>
    rw [if_neg Bool.false_ne_true, show r5 l i false = (i, 0) from rfl, fin_ok]
    split <;> rfl
  | true =>
    simp only [if_true] at hi
    rw [if_pos rfl, ws i (by omega)]
    unfold r5
    rw [if_pos rfl]
    by_cases h1 : i + 1 < l.length
    · rw [if_pos (by omega), if_pos (by omega)]
      by_cases h2 : rd l ((i + 1 : Nat) : Int) = 43
      · rw [if_pos h2, if_pos ⟨h1, .inl h2⟩, e6 l hb hl (i + 1) k true (by simp; omega) (by omega)]; rfl
      · rw [if_neg h2]
        by_cases h3 : rd l ((i + 1 : Nat) : Int) = 45
        · rw [if_pos ⟨h1, .inr h3⟩, h3, show ((45 : Int) == 45) = true from rfl, e6 l hb hl (i + 1) k true (by simp; omega) (by omega)]; rfl
        · rw [if_neg (fun h => h.2.elim h2 h3), beq_eq_false_iff_ne.2 h3, e6 l hb hl (i + 1) k false (by simp; omega) (by omega)]; rfl
    · rw [if_neg (by omega), if_neg (fun h => h1 h.1), e6 l hb hl (i + 1) k false (by simp; omega) (by omega)]; rfl
theorem e4 (l : List Int) (hb : Bytes l) (hl : l.length ≤ 1000) (i k : Nat) (hi : i ≤ l.length) (hk : 1016 < k) : gojsonnum_End.j4 k l (i : Int) = some (fin l (r4 l i)) := by
  obtain ⟨k, rfl⟩ : ∃ m, k = m + 1 := ⟨k - 1, by omega⟩
  rw [gojsonnum_End.j4]
  unfold r4
  by_cases h1 : i < l.length
  · rw [if_pos (by omega), if_pos (by omega)]
    by_cases h2 : rd l (i : Int) = 101
    · rw [if_pos h2, decide_eq_true ⟨h1, .inl h2⟩]
      exact e5 l hb hl i k true (by simp; omega) (by omega)
    · rw [if_neg h2]
      by_cases h3 : rd l (i : Int) = 69
      · rw [decide_eq_true ⟨h1, .inr h3⟩, h3, show ((69 : Int) == 69) = true from rfl]
        exact e5 l hb hl i k true (by simp; omega) (by omega)
      · rw [decide_eq_false (fun h => h.2.elim h2 h3), beq_eq_false_iff_ne.2 h3]
        exact e5 l hb hl i k false (by simp; omega) (by omega)
  · rw [if_neg (by omega), decide_eq_false (fun h => h1 h.1)]
    exact e5 l hb hl i k false (by simp; omega) (by omega)
theorem e3 (l : List Int) (hb : Bytes l) (hl : l.length ≤ 1000) (i k : Nat) (b : Bool) (hi : i + (if b then 1 else 0) ≤ l.length) (hk : 1017 < k) : gojsonnum_End.j3 k l (i : Int) b = some (fin l (r3 l i b)) := by
  obtain ⟨k, rfl⟩ : ∃ m, k = m + 1 := ⟨k - 1, by omega⟩
  rw [gojsonnum_End.j3]
  unfold r3
  cases b with
  | false => exact e4 l hb hl i k (by simpa using hi) (by omega)
  | true =>
    simp only [if_true] at hi
    rw [if_pos rfl, if_pos rfl, ws i (by omega), due l (i + 1) hi, ws (i + 1) (by omega)]
    by_cases h : dEnd l (i + 1) = i + 1
    · rw [if_pos h, if_pos h, fin_bad _ _ 2 (by decide)]
    · have hn := dEnd_next l (i + 1) hi h
      rw [if_neg h, if_neg h, scn l hb hl (i + 1 + 1) k (by omega) (by omega), Option.bind_some, hn.2]
      exact e4 l hb hl _ k (dEnd_ge l (i + 1) hi).2 (by omega)
theorem e2 (l : List Int) (hb : Bytes l) (hl : l.length ≤ 1000) (i k : Nat) (hi : i ≤ l.length) (hk : 1018 < k) : gojsonnum_End.j2 k l (i : Int) = some (fin l (r2 l i)) := by
  obtain ⟨k, rfl⟩ : ∃ m, k = m + 1 := ⟨k - 1, by omega⟩
  rw [gojsonnum_End.j2]
  unfold r2
  by_cases h1 : i < l.length
  · rw [if_pos (by omega), if_pos (by omega)]
    by_cases h2 : rd l (i : Int) = 46
    · rw [decide_eq_true ⟨h1, h2⟩, h2, show ((46 : Int) == 46) = true from rfl]
      exact e3 l hb hl i k true (by simp; omega) (by omega)
    · rw [decide_eq_false (fun h => h2 h.2), beq_eq_false_iff_ne.2 h2]
      exact e3 l hb hl i k false (by simp; omega) (by omega)
  · rw [if_neg (by omega), decide_eq_false (fun h => h1 h.1)]
    exact e3 l hb hl i k false (by simp; omega) (by omega)
theorem e1 (l : List Int) (hb : Bytes l) (hl : l.length ≤ 1000) (i k : Nat) (hi : i ≤ l.length) (hk : 1019 < k) : gojsonnum_End.j1 k l (i : Int) = some (fin l (r1 l i)) := by
  obtain ⟨k, rfl⟩ : ∃ m, k = m + 1 := ⟨k - 1, by omega⟩
  rw [gojsonnum_End.j1]
  unfold r1
  by_cases h0 : i = l.length
  · rw [if_pos (by omega), if_pos (dEnd_end l i (by omega)), fin_bad _ _ 1 (by decide)]
  · rw [if_neg (by omega), if_pos (by omega), if_pos (by omega)]
    have hs := dEnd_step l i (by omega)
    by_cases h48 : rd l (i : Int) = 48
    · have hgt := dEnd_gt l i (by omega) ((isD_iff _).2 (by omega))
      rw [if_pos h48, if_neg (show ¬ dEnd l i = i by omega), if_pos h48, ws i (by omega)]
      exact e2 l hb hl (i + 1) k (by omega) (by omega)
    · rw [if_neg h48]
      by_cases hd : isD (rd l (i : Int)) = true
      · have h2 := (isD_iff _).1 hd
        have hg := dEnd_gt l i (by omega) hd
        have hn := dEnd_next l i (by omega) (by omega)
        rw [if_pos (show 49 ≤ rd l (i : Int) by omega), if_pos (show rd l (i : Int) ≤ 57 by omega), if_neg (show ¬ dEnd l i = i by omega), if_neg h48, ws i (by omega), scn l hb hl (i + 1) k (by omega) (by omega), Option.bind_some, hn.2]
        exact e2 l hb hl _ k (dEnd_ge l i (by omega)).2 (by omega)
      · rw [if_neg hd] at hs
        have h2 : ¬ (48 ≤ rd l (i : Int) ∧ rd l (i : Int) ≤ 57) := fun h => hd ((isD_iff _).2 h)
        rw [if_pos hs, fin_bad _ _ 1 (by decide)]
        by_cases h3 : 49 ≤ rd l (i : Int)
        · rw [if_pos h3, if_neg (by omega)]
        · rw [if_neg h3]
theorem pack_end (l : List Int) (hb : Bytes l) (hl : l.length ≤ 1000) (k : Nat) (hk : 1021 < k) : gojsonnum_End.f k l = some (fin l (scanNum l)) := by
  obtain ⟨k, rfl⟩ : ∃ m, k = m + 1 := ⟨k - 1, by omega⟩
  unfold gojsonnum_End.f scanNum
  by_cases h0 : 0 < l.length
  · rw [if_pos (by omega)]
    by_cases h1 : rd l 0 = 45
    · rw [if_pos ⟨h0, h1⟩, h1, show ((45 : Int) == 45) = true from rfl, gojsonnum_End.j0, if_pos rfl, show wrap64 (0 + 1) = ((1 : Nat) : Int) from by unfold wrap64; rfl]
      exact e1 l hb hl 1 k (by omega) (by omega)
    · rw [if_neg (fun h => h1 h.2), beq_eq_false_iff_ne.2 h1, gojsonnum_End.j0, if_neg Bool.false_ne_true]
      exact e1 l hb hl 0 k (by omega) (by omega)
  · rw [if_neg (by omega), if_neg (fun h => h0 h.1), gojsonnum_End.j0, if_neg Bool.false_ne_true]
    exact e1 l hb hl 0 k (by omega) (by omega)
/-- The place that is told lies in the bytes, or behind them. -/
theorem scan_le (l : List Int) (_h2 : (scanNum l).2 = 0) : (scanNum l).1 ≤ l.length := by
  have h6 : ∀ i, i ≤ l.length → (r6 l i).1 ≤ l.length := fun i hi => by unfold r6; split; exact hi; exact (dEnd_ge l i hi).2
  have h5 : ∀ i b, i + (if b then 1 else 0) ≤ l.length → (r5 l i b).1 ≤ l.length := fun i b hi => by
    cases b with
    | false => exact hi
    | true =>
      unfold r5
      rw [if_pos rfl]
      split
      · rename_i h; exact h6 _ (by omega)
      · exact h6 _ (by simpa using hi)
  have h4 : ∀ i, i ≤ l.length → (r4 l i).1 ≤ l.length := fun i hi => by
    unfold r4
    by_cases h : i < l.length ∧ (rd l (i : Int) = 101 ∨ rd l (i : Int) = 69)
    · rw [decide_eq_true h]; exact h5 _ _ (by simp; omega)
    · rw [decide_eq_false h]; exact h5 _ _ (by simpa using hi)
  have h3 : ∀ i b, i + (if b then 1 else 0) ≤ l.length → (r3 l i b).1 ≤ l.length := fun i b hi => by
    cases b with
    | false => exact h4 _ hi
    | true =>
      unfold r3
      rw [if_pos rfl]
      split
      · simpa using hi
      · exact h4 _ (dEnd_ge l (i + 1) (by simpa using hi)).2
  have h2' : ∀ i, i ≤ l.length → (r2 l i).1 ≤ l.length := fun i hi => by
    unfold r2
    by_cases h : i < l.length ∧ rd l (i : Int) = 46
    · rw [decide_eq_true h]; exact h3 _ _ (by simp; omega)
    · rw [decide_eq_false h]; exact h3 _ _ (by simpa using hi)
  have h1 : ∀ i, i ≤ l.length → (r1 l i).1 ≤ l.length := fun i hi => by
    unfold r1
    split
    · exact hi
    · rename_i h
      have := dEnd_next l i hi h
      split
      · exact h2' _ (by omega)
      · exact h2' _ (dEnd_ge l i hi).2
  unfold scanNum
  split
  · rename_i h; exact h1 1 (by omega)
  · exact h1 0 (by omega)
end Go.Proofs.YtoigokgechcaiaaDoor.Dig
