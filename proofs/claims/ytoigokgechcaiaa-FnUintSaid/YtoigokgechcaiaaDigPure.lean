/- Digits read one by one, as natural numbers: what the reference's and the package's loops over digits come to; plain lemmas. -/
import Derived.Test.YtoigokgechcaiaaQDg2
namespace Go.Proofs.Ytoigokgechcaiaa.Dig
open Go.RowKit Go.Proofs.Ytoigokgechcaiaa.QDg Go.Proofs.YtoigokgechcaiaaW.PrintWords Go.Proofs.YtoigokgechcaiaaW.PrintLast Go.Proofs.YtoigokgechcaiaaW.PrintMore

def isD (c : Int) : Bool := decide (48 ≤ c ∧ c ≤ 57)
def Bytes (l : List Int) : Prop := ∀ x ∈ l, 0 ≤ x ∧ x < 256
theorem bytes_of (l : List Int) (h : ∀ x ∈ l, (Lit.int .u8 x).wf = true) : Bytes l := fun x hx => by
  have := h x hx
  have h1 : 0 ≤ x ∧ x ≤ 255 := by simpa [Lit.wf, IntKind.min, IntKind.max, IntKind.bits, IntKind.signed] using this
  omega
theorem rd_nat (l : List Int) (i : Nat) : rd l (i : Int) = l.getD i 0 := rfl
theorem rd_mem {l : List Int} (h : Bytes l) (i : Nat) : 0 ≤ rd l (i : Int) ∧ rd l (i : Int) < 256 := by
  rw [rd_nat, List.getD_eq_getElem?_getD]
  rcases Nat.lt_or_ge i l.length with hi | hi
  · rw [List.getElem?_eq_getElem hi]; exact h _ (List.getElem_mem hi)
  · rw [List.getElem?_eq_none hi]; decide
theorem rd_app (l m : List Int) (i : Nat) (hi : i < l.length) : rd (l ++ m) (i : Int) = rd l (i : Int) := by
  rw [rd_nat, rd_nat, List.getD_eq_getElem?_getD, List.getD_eq_getElem?_getD, List.getElem?_append_left hi]
theorem rd_last (l : List Int) (x : Int) : rd (l ++ [x]) (l.length : Int) = x := by
  rw [rd_nat, List.getD_eq_getElem?_getD]; simp
theorem wrap_succ (i n : Nat) (hi : i ≤ n) (hn : n ≤ 140737488355328) : wrap64 ((i : Int) + 1) = ((i + 1 : Nat) : Int) := by unfold wrap64; omega

/-- Where the digits from i on end: d is how far there is to look. -/
def runEnd (l : List Int) : Nat → Nat → Nat
  | 0, i => i
  | d + 1, i => if isD (rd l (i : Int)) then runEnd l d (i + 1) else i
theorem runEnd_ge (l : List Int) : ∀ d i, i ≤ runEnd l d i ∧ runEnd l d i ≤ i + d := by
  intro d
  induction d with
  | zero => intro i; simp [runEnd]
  | succ d ih =>
    intro i
    have := ih (i + 1)
    unfold runEnd
    split <;> omega
theorem runEnd_digit (l : List Int) : ∀ d i j, i ≤ j → j < runEnd l d i → isD (rd l (j : Int)) = true := by
  intro d
  induction d with
  | zero => intro i j h1 h2; simp [runEnd] at h2; omega
  | succ d ih =>
    intro i j h1 h2
    unfold runEnd at h2
    split at h2
    · rename_i hd
      rcases Nat.eq_or_lt_of_le h1 with rfl | h3
      · exact hd
      · exact ih (i + 1) j h3 h2
    · omega
theorem runEnd_stop (l : List Int) : ∀ d i, runEnd l d i < i + d → isD (rd l (runEnd l d i : Int)) = false := by
  intro d
  induction d with
  | zero => intro i h; simp [runEnd] at h
  | succ d ih =>
    intro i h
    unfold runEnd at h ⊢
    split
    · rename_i hd
      rw [if_pos hd] at h
      exact ih (i + 1) (by omega)
    · rename_i hd
      simpa using hd
theorem runEnd_app (l m : List Int) : ∀ d i, i + d ≤ l.length → runEnd (l ++ m) d i = runEnd l d i := by
  intro d
  induction d with
  | zero => intro i _; rfl
  | succ d ih =>
    intro i h
    unfold runEnd
    rw [rd_app l m i (by omega), ih (i + 1) (by omega)]

theorem digit_f (c : Int) : spec_digit.f c = some (isD c) := by
  unfold spec_digit.f isD
  by_cases h : c ≥ 48
  · rw [if_pos h]; congr 1; simp; omega
  · rw [if_neg h]; congr 1; simp; omega
theorem digits8_l (l : List Int) (hl : l.length ≤ 140737488355327) : ∀ d i k, i + d = l.length → d < k → spec_digits8.l0 k l (i : Int) = some ((runEnd l d i : Nat) : Int) := by
  intro d
  induction d with
  | zero =>
    intro i k hi hk
    obtain ⟨k, rfl⟩ : ∃ m, k = m + 1 := ⟨k - 1, by omega⟩
    simp only [spec_digits8.l0]
    rw [if_neg (by omega)]
    rfl
  | succ d ih =>
    intro i k hi hk
    obtain ⟨k, rfl⟩ : ∃ m, k = m + 1 := ⟨k - 1, by omega⟩
    simp only [spec_digits8.l0]
    rw [if_pos (by omega), if_pos (by omega), digit_f]
    simp only [Option.bind_some]
    unfold runEnd
    by_cases h : isD (rd l (i : Int)) = true
    · rw [if_pos h, if_pos h, wrap_succ i l.length (by omega) (by omega)]
      exact ih (i + 1) k (by omega) (by omega)
    · rw [if_neg h, if_neg h]
theorem digits8_f (l : List Int) (hl : l.length ≤ 140737488355327) (i k : Nat) (hi : i ≤ l.length) (hk : l.length - i < k) : spec_digits8.f k l (i : Int) = some ((runEnd l (l.length - i) i : Nat) : Int) :=
  digits8_l l hl _ i k (by omega) hk

/-- Where the digits of a whole number end: a nought alone, or all. -/
def run8 (l : List Int) (i : Nat) : Nat := if i < l.length ∧ rd l (i : Int) = 48 then i + 1 else runEnd l (l.length - i) i
theorem run8_f (l : List Int) (hl : l.length ≤ 140737488355327) (i k : Nat) (hi : i ≤ l.length) (hk : l.length - i < k) : spec_Run8.f k l (i : Int) = some ((run8 l i : Nat) : Int) := by
  unfold spec_Run8.f run8
  by_cases h : i < l.length
  · rw [if_pos (by omega), if_pos (by omega)]
    by_cases h0 : rd l (i : Int) = 48
    · rw [if_pos h0, if_pos ⟨h, h0⟩, wrap_succ i l.length (by omega) (by omega)]
    · rw [if_neg h0, if_neg (fun h2 => h0 h2.2), digits8_f l hl i k hi hk]; rfl
  · rw [if_neg (by omega), if_neg (fun h2 => h h2.1), digits8_f l hl i k hi hk]; rfl

/-- The value of digits, from a value ahead of them. -/
def val (n : Nat) : List Int → Nat
  | [] => n
  | c :: r => val (n * 10 + ((c - 48) % 256).toNat) r
theorem val_ge : ∀ (l : List Int) (n : Nat), n ≤ val n l := by
  intro l
  induction l with
  | nil => intro n; exact Nat.le_refl _
  | cons c r ih => intro n; exact Nat.le_trans (by omega) (ih _)
theorem val_lt : ∀ (l : List Int), (∀ c ∈ l, isD c = true) → ∀ n m, n < 10 ^ m → val n l < 10 ^ (m + l.length) := by
  intro l
  induction l with
  | nil => intro _ n m h; exact h
  | cons c r ih =>
    intro hd n m h
    have h1 := hd c (by simp)
    simp only [isD, decide_eq_true_eq] at h1
    have := ih (fun x hx => hd x (by simp [hx])) (n * 10 + ((c - 48) % 256).toNat) (m + 1) (by rw [Nat.pow_succ]; omega)
    simpa [val, Nat.add_assoc, Nat.add_comm 1] using this
theorem val_app (a b : List Int) : ∀ n, val n (a ++ b) = val (val n a) b := by
  induction a with
  | nil => intro n; rfl
  | cons c r ih => intro n; exact ih _
/-- A value that has 64 bits, and whether it has. -/
def fit (v : Nat) : Int × Bool := if v < 18446744073709551616 then ((v : Int), true) else (0, false)
theorem Value8_l (l : List Int) (hl : l.length ≤ 140737488355327) : ∀ d i k n, i + d = l.length → d < k → n < 18446744073709551616 →
    spec_Value8.l0 k (n : Nat) l (l.length : Int) (i : Int) = some (fit (val n (l.drop i))) := by
  intro d
  induction d with
  | zero =>
    intro i k n hi hk hn
    obtain ⟨k, rfl⟩ : ∃ m, k = m + 1 := ⟨k - 1, by omega⟩
    simp only [spec_Value8.l0]
    rw [if_neg (by omega), List.drop_of_length_le (by omega)]
    simp [val, fit, hn]
  | succ d ih =>
    intro i k n hi hk hn
    obtain ⟨k, rfl⟩ : ∃ m, k = m + 1 := ⟨k - 1, by omega⟩
    have hc : l.drop i = rd l (i : Int) :: l.drop (i + 1) := by
      rw [List.drop_eq_getElem_cons (by omega), rd_nat, List.getD_eq_getElem?_getD, List.getElem?_eq_getElem (by omega)]; rfl
    simp only [spec_Value8.l0]
    rw [if_pos (by omega), if_pos (by omega), if_pos (by omega), hc]
    have hv : val n (rd l (i : Int) :: l.drop (i + 1)) = val (n * 10 + ((rd l (i : Int) - 48) % 256).toNat) (l.drop (i + 1)) := rfl
    rw [hv]
    have hge := val_ge (l.drop (i + 1)) (n * 10 + ((rd l (i : Int) - 48) % 256).toNat)
    have hn := ih (i + 1) k (n * 10 + ((rd l (i : Int) - 48) % 256).toNat) (by omega) (by omega)
    generalize rd l (i : Int) = c at *
    by_cases h : (n : Int) > (18446744073709551615 - (c - 48) % 256) / 10
    · rw [if_pos h]
      unfold fit
      rw [if_neg (by omega)]
    · rw [if_neg h, wrap_succ i l.length (by omega) (by omega)]
      have e : IntKind.u64.wrap (IntKind.u64.wrap ((n : Int) * 10) + (c - 48) % 256) = ((n * 10 + ((c - 48) % 256).toNat : Nat) : Int) := by
        rw [show ∀ z, IntKind.u64.wrap z = z % 18446744073709551616 from fun z => by simp [IntKind.wrap, IntKind.bits, IntKind.signed], show ∀ z, IntKind.u64.wrap z = z % 18446744073709551616 from fun z => by simp [IntKind.wrap, IntKind.bits, IntKind.signed]]
        omega
      rw [e]
      exact hn (by omega)
theorem Value8_f (l : List Int) (hl : l.length ≤ 140737488355327) (k : Nat) (hk : l.length < k) : spec_Value8.f k l = some (fit (val 0 l)) := by
  have := Value8_l l hl l.length 0 k 0 (by omega) hk (by decide)
  exact this

theorem term_f (l : List Int) (hl : l.length + 1 < 140737488355328) : laws_terminated8.f l = some (l ++ [0]) := by
  unfold laws_terminated8.f
  rw [if_pos (by simpa using (by omega : l.length < 140737488355328))]
  simp only [List.nil_append, Option.bind_some]
  rw [if_pos (by omega)]

/-- The bytes between two places. -/
def cut (l : List Int) (i j : Nat) : List Int := (l.take j).drop i
theorem cut_self (l : List Int) (i : Nat) : cut l i i = [] := by
  unfold cut; apply List.drop_of_length_le; rw [List.length_take]; omega
theorem cut_snoc (l : List Int) (i j : Nat) (h1 : i ≤ j) (h2 : j < l.length) : cut l i (j + 1) = cut l i j ++ [rd l (j : Int)] := by
  unfold cut
  rw [List.take_succ_eq_append_getElem h2, List.drop_append_of_le_length (by rw [List.length_take]; omega), rd_nat, List.getD_eq_getElem?_getD, List.getElem?_eq_getElem h2]; rfl
theorem cut_length (l : List Int) (i j : Nat) (h1 : i ≤ j) (h2 : j ≤ l.length) : (cut l i j).length = j - i := by
  unfold cut; rw [List.length_drop, List.length_take]; omega
theorem cut_mem (l : List Int) (i j : Nat) (h2 : j ≤ l.length) (c : Int) (hc : c ∈ cut l i j) : ∃ m : Nat, i ≤ m ∧ m < j ∧ c = rd l (m : Int) := by
  unfold cut at hc
  obtain ⟨m, hm, rfl⟩ := List.getElem_of_mem hc
  rw [List.length_drop, List.length_take] at hm
  refine ⟨i + m, by omega, by omega, ?_⟩
  rw [List.getElem_drop, List.getElem_take, rd_nat, List.getD_eq_getElem?_getD, List.getElem?_eq_getElem (by omega)]; rfl

/-- The package's loop over digits, in bytes behind which a nought stands. -/
theorem Parse_l (l : List Int) (hb : Bytes l) (hl : l.length + 1 < 140737488355328) (s : Nat) : ∀ d i k, i + d = l.length → s ≤ i → d < k →
    (∀ j : Nat, s ≤ j → j < i → isD (rd l (j : Int)) = true) →
    gojsonnum_ParseDigits.l0 k (l ++ [0]) (i : Int) (s : Int) ((val 0 (cut l s i) % 18446744073709551616 : Nat) : Int) = some (((val 0 (cut l s (runEnd l d i)) % 18446744073709551616 : Nat) : Int), ((runEnd l d i : Nat) : Int), ((runEnd l d i - s : Nat) : Int)) := by
  intro d
  induction d with
  | zero =>
    intro i k hi hs hk hd
    obtain ⟨k, rfl⟩ : ∃ m, k = m + 1 := ⟨k - 1, by omega⟩
    have hil : i = l.length := by omega
    simp only [gojsonnum_ParseDigits.l0]
    rw [if_pos (by omega), if_pos (by rw [List.length_append]; simp; omega), hil, rd_last, if_pos (by decide)]
    simp only [runEnd]
    rw [show wrap64 ((l.length : Int) - (s : Int)) = ((l.length - s : Nat) : Int) from by unfold wrap64; omega]
  | succ d ih =>
    intro i k hi hs hk hd
    obtain ⟨k, rfl⟩ : ∃ m, k = m + 1 := ⟨k - 1, by omega⟩
    simp only [gojsonnum_ParseDigits.l0]
    rw [if_pos (by omega), if_pos (by rw [List.length_append]; simp; omega), rd_app l [0] i (by omega)]
    have hm := rd_mem hb i
    have hcs := cut_snoc l s i hs (by omega)
    generalize hc : rd l (i : Int) = c at *
    unfold runEnd
    rw [hc]
    by_cases h : isD c = true
    · have h' := h
      simp only [isD, decide_eq_true_eq] at h'
      rw [if_neg (by omega), if_pos h, wrap_succ i l.length (by omega) (by omega)]
      have e : IntKind.u64.wrap (IntKind.u64.wrap (((val 0 (cut l s i) % 18446744073709551616 : Nat) : Int) * 10) + (c - 48) % 256) = ((val 0 (cut l s (i + 1)) % 18446744073709551616 : Nat) : Int) := by
        rw [hcs, val_app]
        simp only [val]
        rw [show ∀ z, IntKind.u64.wrap z = z % 18446744073709551616 from fun z => by simp [IntKind.wrap, IntKind.bits, IntKind.signed], show ∀ z, IntKind.u64.wrap z = z % 18446744073709551616 from fun z => by simp [IntKind.wrap, IntKind.bits, IntKind.signed]]
        omega
      rw [e]
      exact ih (i + 1) k (by omega) (by omega) (by omega) (fun j h1 h2 => by
        rcases Nat.lt_or_ge j i with h3 | h3
        · exact hd j h1 h3
        · obtain rfl : j = i := by omega
          rw [hc]; exact h)
    · have h' := h
      simp only [isD, decide_eq_true_eq] at h'
      rw [if_pos (by omega), if_neg h]
      rw [show wrap64 ((i : Int) - (s : Int)) = ((i - s : Nat) : Int) from by unfold wrap64; omega]
/-- What the package reads at a place: the value (of its 64 bits), the place behind the digits, how many they are. -/
theorem Parse_f (l : List Int) (hb : Bytes l) (hl : l.length + 1 < 140737488355328) (i k : Nat) (hi : i ≤ l.length) (hk : l.length - i < k) :
    gojsonnum_ParseDigits.f k (l ++ [0]) (i : Int) = some (((val 0 (cut l i (run8 l i)) % 18446744073709551616 : Nat) : Int), ((run8 l i : Nat) : Int), ((run8 l i - i : Nat) : Int)) := by
  unfold gojsonnum_ParseDigits.f
  rw [if_pos (by omega), if_pos (by rw [List.length_append]; simp; omega)]
  unfold run8
  by_cases h0 : i < l.length ∧ rd l (i : Int) = 48
  · have hcs := cut_snoc l i i (Nat.le_refl _) h0.1
    rw [rd_app l [0] i h0.1, if_pos h0.2, if_pos h0, wrap_succ i l.length (by omega) (by omega), hcs, cut_self, h0.2]
    simp [val]
  · have : rd (l ++ [0]) (i : Int) ≠ 48 := by
      rcases Nat.lt_or_ge i l.length with h1 | h1
      · rw [rd_app l [0] i h1]; exact fun h => h0 ⟨h1, h⟩
      · obtain rfl : i = l.length := by omega
        rw [rd_last]; decide
    rw [if_neg this, if_neg h0]
    have := Parse_l l hb hl i (l.length - i) i k (by omega) (Nat.le_refl _) hk (fun j h1 h2 => by omega)
    rw [cut_self] at this
    exact this
theorem run8_ge (l : List Int) (i : Nat) (hi : i ≤ l.length) : i ≤ run8 l i ∧ run8 l i ≤ l.length := by
  unfold run8
  have := runEnd_ge l (l.length - i) i
  split <;> omega
theorem run8_digit (l : List Int) (i j : Nat) (h1 : i ≤ j) (h2 : j < run8 l i) : isD (rd l (j : Int)) = true := by
  unfold run8 at h2
  split at h2
  · rename_i h
    obtain rfl : j = i := by omega
    rw [h.2]; decide
  · exact runEnd_digit l _ i j h1 h2
end Go.Proofs.Ytoigokgechcaiaa.Dig
