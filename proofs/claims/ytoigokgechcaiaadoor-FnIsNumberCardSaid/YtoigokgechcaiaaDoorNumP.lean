/- The reference's and the package's walks over numbers, as printed, come to the same place and kind; plain lemmas. -/
import Derived.Test.YtoigokgechcaiaaDoorScanN
import Derived.Test.YtoigokgechcaiaaDoorNumScan
import Derived.Test.YtoigokgechcaiaaDoorQNm2
import Derived.Test.YtoigokgechcaiaaDoorQNm3
import Derived.Test.YtoigokgechcaiaaDoorQNm5
namespace Go.Proofs.YtoigokgechcaiaaDoor.Dig
open Go.RowKit Go.Proofs.YtoigokgechcaiaaDoor.QNm Go.Proofs.YtoigokgechcaiaaDoorW.PrintWords Go.Proofs.YtoigokgechcaiaaDoorW.PrintLast Go.Proofs.YtoigokgechcaiaaDoorW.PrintMore

theorem ws (i : Nat) (h : i ≤ 140737488355328) : wrap64 ((i : Int) + 1) = ((i + 1 : Nat) : Int) := by unfold wrap64; omega
theorem dig8 (l : List Int) (hl : l.length ≤ 1000) (i k : Nat) (hi : i ≤ l.length) (hk : 1010 < k) : spec_digits8.f k l (i : Int) = some ((dEnd l i : Nat) : Int) := digits8_f l (by omega) i k hi (by omega)
theorem scn (l : List Int) (hb : Bytes l) (hl : l.length ≤ 1000) (i k : Nat) (hi : i ≤ l.length) (hk : 1010 < k) : gojsonnum_ScanDigits.f k l (i : Int) = some ((dEnd l i : Nat) : Int) := Scan_f l hb (by omega) i k hi (by omega)

theorem s6 (l : List Int) (hl : l.length ≤ 1000) (i k : Nat) (b : Bool) (hi : i + (if b then 1 else 0) ≤ l.length) (hk : 1011 < k) : spec_ScanNumber8.j6 k l (i : Int) b = some (z2 (r6 l (i + if b then 1 else 0))) := by
  obtain ⟨k, rfl⟩ : ∃ m, k = m + 1 := ⟨k - 1, by omega⟩
  rw [spec_ScanNumber8.j6]
  cases b with
  | true =>
    simp only [if_true] at hi ⊢
    rw [ws i (by omega), dig8 l hl (i + 1) k hi (by omega), Option.bind_some]
    unfold r6
    by_cases h : dEnd l (i + 1) = i + 1
    · rw [if_pos h, if_pos (by omega)]; rfl
    · rw [if_neg h, if_neg (by omega)]; rfl
  | false =>
    rw [if_neg Bool.false_ne_true] at hi ⊢
    rw [dig8 l hl i k hi (by omega), Option.bind_some]
    rw [show i + (if false = true then 1 else 0) = i from rfl]
    unfold r6
    by_cases h : dEnd l i = i
    · rw [if_pos h, if_pos (by omega)]; rfl
    · rw [if_neg h, if_neg (by omega)]; rfl
theorem s5 (l : List Int) (hl : l.length ≤ 1000) (i k : Nat) (b : Bool) (hi : i + (if b then 1 else 0) ≤ l.length) (hk : 1012 < k) : spec_ScanNumber8.j5 k l (i : Int) b = some (z2 (r5 l i b)) := by
  obtain ⟨k, rfl⟩ : ∃ m, k = m + 1 := ⟨k - 1, by omega⟩
  rw [spec_ScanNumber8.j5]
  cases b with
  | false => rfl
  | true =>
    simp only [if_true] at hi
    rw [if_pos rfl, ws i (by omega)]
    unfold r5
    rw [if_pos rfl]
    by_cases h1 : i + 1 < l.length
    · rw [if_pos (by omega), if_pos (by omega)]
      by_cases h2 : rd l ((i + 1 : Nat) : Int) = 43
      · rw [if_pos h2, if_pos ⟨h1, .inl h2⟩, s6 l hl (i + 1) k true (by simp; omega) (by omega)]; rfl
      · rw [if_neg h2]
        by_cases h3 : rd l ((i + 1 : Nat) : Int) = 45
        · rw [if_pos ⟨h1, .inr h3⟩, h3, show ((45 : Int) == 45) = true from rfl, s6 l hl (i + 1) k true (by simp; omega) (by omega)]; rfl
        · rw [if_neg (fun h => h.2.elim h2 h3), beq_eq_false_iff_ne.2 h3, s6 l hl (i + 1) k false (by simp; omega) (by omega)]; rfl
    · rw [if_neg (by omega), if_neg (fun h => h1 h.1), s6 l hl (i + 1) k false (by simp; omega) (by omega)]; rfl
theorem s4 (l : List Int) (hl : l.length ≤ 1000) (i k : Nat) (hi : i ≤ l.length) (hk : 1013 < k) : spec_ScanNumber8.j4 k l (i : Int) = some (z2 (r4 l i)) := by
  obtain ⟨k, rfl⟩ : ∃ m, k = m + 1 := ⟨k - 1, by omega⟩
  rw [spec_ScanNumber8.j4]
  unfold r4
  by_cases h1 : i < l.length
  · rw [if_pos (by omega), if_pos (by omega)]
    by_cases h2 : rd l (i : Int) = 101
    · rw [if_pos h2, decide_eq_true ⟨h1, .inl h2⟩]
      exact s5 l hl i k true (by simp; omega) (by omega)
    · rw [if_neg h2]
      by_cases h3 : rd l (i : Int) = 69
      · rw [decide_eq_true ⟨h1, .inr h3⟩, h3, show ((69 : Int) == 69) = true from rfl]
        exact s5 l hl i k true (by simp; omega) (by omega)
      · rw [decide_eq_false (fun h => h.2.elim h2 h3), beq_eq_false_iff_ne.2 h3]
        exact s5 l hl i k false (by simp; omega) (by omega)
  · rw [if_neg (by omega), decide_eq_false (fun h => h1 h.1)]
    exact s5 l hl i k false (by simp; omega) (by omega)
theorem s3 (l : List Int) (hl : l.length ≤ 1000) (i k : Nat) (b : Bool) (hi : i + (if b then 1 else 0) ≤ l.length) (hk : 1014 < k) : spec_ScanNumber8.j3 k l (i : Int) b = some (z2 (r3 l i b)) := by
  obtain ⟨k, rfl⟩ : ∃ m, k = m + 1 := ⟨k - 1, by omega⟩
  rw [spec_ScanNumber8.j3]
  unfold r3
  cases b with
  | false => exact s4 l hl i k (by simpa using hi) (by omega)
  | true =>
    simp only [if_true] at hi
    rw [if_pos rfl, if_pos rfl, ws i (by omega), dig8 l hl (i + 1) k hi (by omega), Option.bind_some]
    by_cases h : dEnd l (i + 1) = i + 1
    · rw [if_pos h, if_pos (by omega)]; rfl
    · rw [if_neg h, if_neg (by omega)]
      exact s4 l hl _ k (dEnd_ge l (i + 1) hi).2 (by omega)
theorem s2 (l : List Int) (hl : l.length ≤ 1000) (i k : Nat) (hi : i ≤ l.length) (hk : 1015 < k) : spec_ScanNumber8.j2 k l (i : Int) = some (z2 (r2 l i)) := by
  obtain ⟨k, rfl⟩ : ∃ m, k = m + 1 := ⟨k - 1, by omega⟩
  rw [spec_ScanNumber8.j2]
  unfold r2
  by_cases h1 : i < l.length
  · rw [if_pos (by omega), if_pos (by omega)]
    by_cases h2 : rd l (i : Int) = 46
    · rw [decide_eq_true ⟨h1, h2⟩, h2, show ((46 : Int) == 46) = true from rfl]
      exact s3 l hl i k true (by simp; omega) (by omega)
    · rw [decide_eq_false (fun h => h2 h.2), beq_eq_false_iff_ne.2 h2]
      exact s3 l hl i k false (by simp; omega) (by omega)
  · rw [if_neg (by omega), decide_eq_false (fun h => h1 h.1)]
    exact s3 l hl i k false (by simp; omega) (by omega)
theorem s1 (l : List Int) (hl : l.length ≤ 1000) (i k : Nat) (hi : i ≤ l.length) (hk : 1016 < k) : spec_ScanNumber8.j1 k l (i : Int) = some (z2 (r1 l i)) := by
  obtain ⟨k, rfl⟩ : ∃ m, k = m + 1 := ⟨k - 1, by omega⟩
  have hg := dEnd_ge l i hi
  rw [spec_ScanNumber8.j1, dig8 l hl i k hi (by omega), Option.bind_some]
  unfold r1
  by_cases h : dEnd l i = i
  · rw [if_pos h, if_pos (by omega)]; rfl
  · rw [if_neg h, if_neg (by omega), if_pos (by omega), if_pos (by omega)]
    by_cases h2 : rd l (i : Int) = 48
    · rw [if_pos h2, if_pos h2, ws i (by omega)]
      exact s2 l hl (i + 1) k (by omega) (by omega)
    · rw [if_neg h2, if_neg h2]
      exact s2 l hl _ k hg.2 (by omega)
theorem spec_scan (l : List Int) (hl : l.length ≤ 1000) (k : Nat) (hk : 1020 < k) : spec_ScanNumber8.f k l = some (z2 (scanNum l)) := by
  obtain ⟨k, rfl⟩ : ∃ m, k = m + 1 := ⟨k - 1, by omega⟩
  unfold spec_ScanNumber8.f scanNum
  by_cases h0 : 0 < l.length
  · rw [if_pos (by omega)]
    by_cases h1 : rd l 0 = 45
    · rw [if_pos ⟨h0, h1⟩, h1, show ((45 : Int) == 45) = true from rfl, spec_ScanNumber8.j0, if_pos rfl, show wrap64 (0 + 1) = ((1 : Nat) : Int) from by unfold wrap64; rfl]
      exact s1 l hl 1 k (by omega) (by omega)
    · rw [if_neg (fun h => h1 h.2), beq_eq_false_iff_ne.2 h1, spec_ScanNumber8.j0, if_neg Bool.false_ne_true]
      exact s1 l hl 0 k (by omega) (by omega)
  · rw [if_neg (by omega), if_neg (fun h => h0 h.1), spec_ScanNumber8.j0, if_neg Bool.false_ne_true]
    exact s1 l hl 0 k (by omega) (by omega)

/-! ### the package's Scan -/
/-- A place at which a digit is due: as the package asks. -/
theorem due {α : Type} (l : List Int) (i : Nat) (hi : i ≤ l.length) (no yes : Option α) :
    (if (i : Int) = (l.length : Int) then no else if 0 ≤ (i : Int) then (if (i : Int) < (l.length : Int) then (if rd l (i : Int) < 48 then no else if 57 < rd l (i : Int) then no else yes) else none) else none) = if dEnd l i = i then no else yes := by
  by_cases h : i = l.length
  · rw [if_pos (by omega), if_pos (dEnd_end l i (by omega))]
  · rw [if_neg (by omega), if_pos (by omega), if_pos (by omega)]
    have hs := dEnd_step l i (by omega)
    by_cases hd : isD (rd l (i : Int)) = true
    · have h2 := (isD_iff _).1 hd
      have hgt : i < dEnd l i := dEnd_gt l i (by omega) hd
      rw [if_neg (show ¬ rd l (i : Int) < 48 by omega), if_neg (show ¬ 57 < rd l (i : Int) by omega), if_neg (show ¬ dEnd l i = i by omega)]
    · rw [if_neg hd] at hs
      rw [if_pos hs]
      have h2 : ¬ (48 ≤ rd l (i : Int) ∧ rd l (i : Int) ≤ 57) := fun h => hd ((isD_iff _).2 h)
      by_cases h3 : rd l (i : Int) < 48
      · rw [if_pos h3]
      · rw [if_neg h3, if_pos (by omega)]
/-- Behind a digit the run goes on. -/
theorem dEnd_next (l : List Int) (i : Nat) (_hi : i ≤ l.length) (h : dEnd l i ≠ i) : i < l.length ∧ dEnd l (i + 1) = dEnd l i := by
  have hlt : i < l.length := by
    rcases Nat.lt_or_ge i l.length with h2 | h2
    · exact h2
    · exact absurd (dEnd_end l i h2) h
  have hs := dEnd_step l i hlt
  by_cases hd : isD (rd l (i : Int)) = true
  · rw [if_pos hd] at hs; exact ⟨hlt, hs.symm⟩
  · rw [if_neg hd] at hs; exact absurd hs h
theorem p6 (l : List Int) (hb : Bytes l) (hl : l.length ≤ 1000) (i k : Nat) (b : Bool) (hi : i + (if b then 1 else 0) ≤ l.length) (hk : 1011 < k) : gojsonnum_Scan.j6 k l (i : Int) b = some (z2 (r6 l (i + if b then 1 else 0))) := by
  obtain ⟨k, rfl⟩ : ∃ m, k = m + 1 := ⟨k - 1, by omega⟩
  rw [gojsonnum_Scan.j6]
  cases b with
  | true =>
    simp only [if_true] at hi ⊢
    rw [ws i (by omega), due l (i + 1) hi, ws (i + 1) (by omega)]
    unfold r6
    by_cases h : dEnd l (i + 1) = i + 1
    · rw [if_pos h, if_pos h]; rfl
    · have hn := dEnd_next l (i + 1) hi h
      rw [if_neg h, if_neg h, scn l hb hl (i + 1 + 1) k (by omega) (by omega), Option.bind_some, hn.2]; rfl
  | false =>
    rw [if_neg Bool.false_ne_true] at hi ⊢
    rw [due l i hi, ws i (by omega), show i + (if false = true then 1 else 0) = i from rfl]
    unfold r6
    by_cases h : dEnd l i = i
    · rw [if_pos h, if_pos h]; rfl
    · have hn := dEnd_next l i hi h
      rw [if_neg h, if_neg h, scn l hb hl (i + 1) k (by omega) (by omega), Option.bind_some, hn.2]; rfl
theorem p5 (l : List Int) (hb : Bytes l) (hl : l.length ≤ 1000) (i k : Nat) (b : Bool) (hi : i + (if b then 1 else 0) ≤ l.length) (hk : 1012 < k) : gojsonnum_Scan.j5 k l (i : Int) b = some (z2 (r5 l i b)) := by
  obtain ⟨k, rfl⟩ : ∃ m, k = m + 1 := ⟨k - 1, by omega⟩
  rw [gojsonnum_Scan.j5]
  cases b with
  | false => rfl
  | true =>
    simp only [if_true] at hi
    rw [if_pos rfl, ws i (by omega)]
    unfold r5
    rw [if_pos rfl]
    by_cases h1 : i + 1 < l.length
    · rw [if_pos (by omega), if_pos (by omega)]
      by_cases h2 : rd l ((i + 1 : Nat) : Int) = 43
      · rw [if_pos h2, if_pos ⟨h1, .inl h2⟩, p6 l hb hl (i + 1) k true (by simp; omega) (by omega)]; rfl
      · rw [if_neg h2]
        by_cases h3 : rd l ((i + 1 : Nat) : Int) = 45
        · rw [if_pos ⟨h1, .inr h3⟩, h3, show ((45 : Int) == 45) = true from rfl, p6 l hb hl (i + 1) k true (by simp; omega) (by omega)]; rfl
        · rw [if_neg (fun h => h.2.elim h2 h3), beq_eq_false_iff_ne.2 h3, p6 l hb hl (i + 1) k false (by simp; omega) (by omega)]; rfl
    · rw [if_neg (by omega), if_neg (fun h => h1 h.1), p6 l hb hl (i + 1) k false (by simp; omega) (by omega)]; rfl
theorem p4 (l : List Int) (hb : Bytes l) (hl : l.length ≤ 1000) (i k : Nat) (hi : i ≤ l.length) (hk : 1013 < k) : gojsonnum_Scan.j4 k l (i : Int) = some (z2 (r4 l i)) := by
  obtain ⟨k, rfl⟩ : ∃ m, k = m + 1 := ⟨k - 1, by omega⟩
  rw [gojsonnum_Scan.j4]
  unfold r4
  by_cases h1 : i < l.length
  · rw [if_pos (by omega), if_pos (by omega)]
    by_cases h2 : rd l (i : Int) = 101
    · rw [if_pos h2, decide_eq_true ⟨h1, .inl h2⟩]
      exact p5 l hb hl i k true (by simp; omega) (by omega)
    · rw [if_neg h2]
      by_cases h3 : rd l (i : Int) = 69
      · rw [decide_eq_true ⟨h1, .inr h3⟩, h3, show ((69 : Int) == 69) = true from rfl]
        exact p5 l hb hl i k true (by simp; omega) (by omega)
      · rw [decide_eq_false (fun h => h.2.elim h2 h3), beq_eq_false_iff_ne.2 h3]
        exact p5 l hb hl i k false (by simp; omega) (by omega)
  · rw [if_neg (by omega), decide_eq_false (fun h => h1 h.1)]
    exact p5 l hb hl i k false (by simp; omega) (by omega)
theorem p3 (l : List Int) (hb : Bytes l) (hl : l.length ≤ 1000) (i k : Nat) (b : Bool) (hi : i + (if b then 1 else 0) ≤ l.length) (hk : 1014 < k) : gojsonnum_Scan.j3 k l (i : Int) b = some (z2 (r3 l i b)) := by
  obtain ⟨k, rfl⟩ : ∃ m, k = m + 1 := ⟨k - 1, by omega⟩
  rw [gojsonnum_Scan.j3]
  unfold r3
  cases b with
  | false => exact p4 l hb hl i k (by simpa using hi) (by omega)
  | true =>
    simp only [if_true] at hi
    rw [if_pos rfl, if_pos rfl, ws i (by omega), due l (i + 1) hi, ws (i + 1) (by omega)]
    by_cases h : dEnd l (i + 1) = i + 1
    · rw [if_pos h, if_pos h]; rfl
    · have hn := dEnd_next l (i + 1) hi h
      rw [if_neg h, if_neg h, scn l hb hl (i + 1 + 1) k (by omega) (by omega), Option.bind_some, hn.2]
      exact p4 l hb hl _ k (dEnd_ge l (i + 1) hi).2 (by omega)
theorem p2 (l : List Int) (hb : Bytes l) (hl : l.length ≤ 1000) (i k : Nat) (hi : i ≤ l.length) (hk : 1015 < k) : gojsonnum_Scan.j2 k l (i : Int) = some (z2 (r2 l i)) := by
  obtain ⟨k, rfl⟩ : ∃ m, k = m + 1 := ⟨k - 1, by omega⟩
  rw [gojsonnum_Scan.j2]
  unfold r2
  by_cases h1 : i < l.length
  · rw [if_pos (by omega), if_pos (by omega)]
    by_cases h2 : rd l (i : Int) = 46
    · rw [decide_eq_true ⟨h1, h2⟩, h2, show ((46 : Int) == 46) = true from rfl]
      exact p3 l hb hl i k true (by simp; omega) (by omega)
    · rw [decide_eq_false (fun h => h2 h.2), beq_eq_false_iff_ne.2 h2]
      exact p3 l hb hl i k false (by simp; omega) (by omega)
  · rw [if_neg (by omega), decide_eq_false (fun h => h1 h.1)]
    exact p3 l hb hl i k false (by simp; omega) (by omega)
theorem p1 (l : List Int) (hb : Bytes l) (hl : l.length ≤ 1000) (i k : Nat) (hi : i ≤ l.length) (hk : 1016 < k) : gojsonnum_Scan.j1 k l (i : Int) = some (z2 (r1 l i)) := by
  obtain ⟨k, rfl⟩ : ∃ m, k = m + 1 := ⟨k - 1, by omega⟩
  rw [gojsonnum_Scan.j1]
  unfold r1
  by_cases h0 : i = l.length
  · rw [if_pos (by omega), if_pos (dEnd_end l i (by omega))]; rfl
  · rw [if_neg (by omega), if_pos (by omega), if_pos (by omega)]
    have hs := dEnd_step l i (by omega)
    by_cases h48 : rd l (i : Int) = 48
    · have := dEnd_gt l i (by omega) ((isD_iff _).2 (by omega))
      rw [if_pos h48, if_neg (by omega), if_pos h48, ws i (by omega)]
      exact p2 l hb hl (i + 1) k (by omega) (by omega)
    · rw [if_neg h48]
      by_cases hd : isD (rd l (i : Int)) = true
      · have h2 := (isD_iff _).1 hd
        have hg := dEnd_gt l i (by omega) hd
        have hn := dEnd_next l i (by omega) (by omega)
        rw [if_pos (show 49 ≤ rd l (i : Int) by omega), if_pos (show rd l (i : Int) ≤ 57 by omega), if_neg (show ¬ dEnd l i = i by omega), if_neg h48, ws i (by omega), scn l hb hl (i + 1) k (by omega) (by omega), Option.bind_some, hn.2]
        exact p2 l hb hl _ k (dEnd_ge l i (by omega)).2 (by omega)
      · rw [if_neg hd] at hs
        have h2 : ¬ (48 ≤ rd l (i : Int) ∧ rd l (i : Int) ≤ 57) := fun h => hd ((isD_iff _).2 h)
        rw [if_pos hs]
        by_cases h3 : 49 ≤ rd l (i : Int)
        · rw [if_pos h3, if_neg (by omega)]; rfl
        · rw [if_neg h3]; rfl
theorem pack_scan (l : List Int) (hb : Bytes l) (hl : l.length ≤ 1000) (k : Nat) (hk : 1020 < k) : gojsonnum_Scan.f k l = some (z2 (scanNum l)) := by
  obtain ⟨k, rfl⟩ : ∃ m, k = m + 1 := ⟨k - 1, by omega⟩
  unfold gojsonnum_Scan.f scanNum
  by_cases h0 : 0 < l.length
  · rw [if_pos (by omega)]
    by_cases h1 : rd l 0 = 45
    · rw [if_pos ⟨h0, h1⟩, h1, show ((45 : Int) == 45) = true from rfl, gojsonnum_Scan.j0, if_pos rfl, show wrap64 (0 + 1) = ((1 : Nat) : Int) from by unfold wrap64; rfl]
      exact p1 l hb hl 1 k (by omega) (by omega)
    · rw [if_neg (fun h => h1 h.2), beq_eq_false_iff_ne.2 h1, gojsonnum_Scan.j0, if_neg Bool.false_ne_true]
      exact p1 l hb hl 0 k (by omega) (by omega)
  · rw [if_neg (by omega), if_neg (fun h => h0 h.1), gojsonnum_Scan.j0, if_neg Bool.false_ne_true]
    exact p1 l hb hl 0 k (by omega) (by omega)
theorem kind_le (l : List Int) : (scanNum l).2 ≤ 3 := by
  have h6 : ∀ i, (r6 l i).2 ≤ 3 := fun i => by unfold r6; split <;> simp
  have h5 : ∀ i b, (r5 l i b).2 ≤ 3 := fun i b => by unfold r5; split; split; exact h6 _; exact h6 _; simp
  have h4 : ∀ i, (r4 l i).2 ≤ 3 := fun i => h5 _ _
  have h3 : ∀ i b, (r3 l i b).2 ≤ 3 := fun i b => by unfold r3; split; split; simp; exact h4 _; exact h4 _
  have h2 : ∀ i, (r2 l i).2 ≤ 3 := fun i => h3 _ _
  have h1 : ∀ i, (r1 l i).2 ≤ 3 := fun i => by unfold r1; split; simp; split; exact h2 _; exact h2 _
  unfold scanNum; split; exact h1 _; exact h1 _
end Go.Proofs.YtoigokgechcaiaaDoor.Dig
