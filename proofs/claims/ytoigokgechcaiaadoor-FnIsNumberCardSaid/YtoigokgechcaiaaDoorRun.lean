/- Bytes, runs of digits, values of digits: plain lemmas over lists of bytes. -/
import Derived.Test.YtoigokgechcaiaaDoorWMore
namespace Go.Proofs.YtoigokgechcaiaaDoor.Dig
open Go.RowKit Go.Proofs.YtoigokgechcaiaaDoorW.PrintWords Go.Proofs.YtoigokgechcaiaaDoorW.PrintLast Go.Proofs.YtoigokgechcaiaaDoorW.PrintMore
def isD (c : Int) : Bool := decide (48 ≤ c ∧ c ≤ 57)
def Bytes (l : List Int) : Prop := ∀ x ∈ l, 0 ≤ x ∧ x < 256
theorem bytes_of (l : List Int) (h : ∀ x ∈ l, (Lit.int .u8 x).wf = true) : Bytes l := fun x hx => by
  have := h x hx
  have h1 : 0 ≤ x ∧ x ≤ 255 := by simpa [Lit.wf, IntKind.min, IntKind.max, IntKind.bits, IntKind.signed] using this
  omega
theorem rd_nat (l : List Int) (i : Nat) : rd l (i : Int) = l.getD i 0 := rfl
theorem rd_mem {l : List Int} (h : Bytes l) (i : Nat) : 0 ≤ rd l (i : Int) ∧ rd l (i : Int) < 256 := by
  rw [rd_nat, List.getD_eq_getElem?_getD]
  rcases Nat.lt_or_ge i l.length with hi | hi
  · rw [List.getElem?_eq_getElem hi]; exact h _ (List.getElem_mem hi)
  · rw [List.getElem?_eq_none hi]; decide
theorem rd_app (l m : List Int) (i : Nat) (hi : i < l.length) : rd (l ++ m) (i : Int) = rd l (i : Int) := by
  rw [rd_nat, rd_nat, List.getD_eq_getElem?_getD, List.getD_eq_getElem?_getD, List.getElem?_append_left hi]
theorem rd_last (l : List Int) (x : Int) : rd (l ++ [x]) (l.length : Int) = x := by
  rw [rd_nat, List.getD_eq_getElem?_getD]; simp
theorem wrap_succ (i n : Nat) (hi : i ≤ n) (hn : n ≤ 140737488355328) : wrap64 ((i : Int) + 1) = ((i + 1 : Nat) : Int) := by unfold wrap64; omega

/-- Where the digits from i on end: d is how far there is to look. -/
def runEnd (l : List Int) : Nat → Nat → Nat
  | 0, i => i
  | d + 1, i => if isD (rd l (i : Int)) then runEnd l d (i + 1) else i
theorem runEnd_ge (l : List Int) : ∀ d i, i ≤ runEnd l d i ∧ runEnd l d i ≤ i + d := by
  intro d
  induction d with
  | zero => intro i; simp [runEnd]
  | succ d ih =>
    intro i
    have := ih (i + 1)
    unfold runEnd
    split <;> omega
theorem runEnd_digit (l : List Int) : ∀ d i j, i ≤ j → j < runEnd l d i → isD (rd l (j : Int)) = true := by
  intro d
  induction d with
  | zero => intro i j h1 h2; simp [runEnd] at h2; omega
  | succ d ih =>
    intro i j h1 h2
    unfold runEnd at h2
    split at h2
    · rename_i hd
      rcases Nat.eq_or_lt_of_le h1 with rfl | h3
      · exact hd
      · exact ih (i + 1) j h3 h2
    · omega
theorem runEnd_stop (l : List Int) : ∀ d i, runEnd l d i < i + d → isD (rd l (runEnd l d i : Int)) = false := by
  intro d
  induction d with
  | zero => intro i h; simp [runEnd] at h
  | succ d ih =>
    intro i h
    unfold runEnd at h ⊢
    split
    · rename_i hd
      rw [if_pos hd] at h
      exact ih (i + 1) (by omega)
    · rename_i hd
      simpa using hd
theorem runEnd_app (l m : List Int) : ∀ d i, i + d ≤ l.length → runEnd (l ++ m) d i = runEnd l d i := by
  intro d
  induction d with
  | zero => intro i _; rfl
  | succ d ih =>
    intro i h
    unfold runEnd
    rw [rd_app l m i (by omega), ih (i + 1) (by omega)]

/-- The value of digits, from a value ahead of them. -/
def val (n : Nat) : List Int → Nat
  | [] => n
  | c :: r => val (n * 10 + ((c - 48) % 256).toNat) r
theorem val_ge : ∀ (l : List Int) (n : Nat), n ≤ val n l := by
  intro l
  induction l with
  | nil => intro n; exact Nat.le_refl _
  | cons c r ih => intro n; exact Nat.le_trans (by omega) (ih _)
theorem val_lt : ∀ (l : List Int), (∀ c ∈ l, isD c = true) → ∀ n m, n < 10 ^ m → val n l < 10 ^ (m + l.length) := by
  intro l
  induction l with
  | nil => intro _ n m h; exact h
  | cons c r ih =>
    intro hd n m h
    have h1 := hd c (by simp)
    simp only [isD, decide_eq_true_eq] at h1
    have := ih (fun x hx => hd x (by simp [hx])) (n * 10 + ((c - 48) % 256).toNat) (m + 1) (by rw [Nat.pow_succ]; omega)
    simpa [val, Nat.add_assoc, Nat.add_comm 1] using this
theorem val_app (a b : List Int) : ∀ n, val n (a ++ b) = val (val n a) b := by
  induction a with
  | nil => intro n; rfl
  | cons c r ih => intro n; exact ih _
/-- The bytes between two places. -/
def cut (l : List Int) (i j : Nat) : List Int := (l.take j).drop i
theorem cut_self (l : List Int) (i : Nat) : cut l i i = [] := by
  unfold cut; apply List.drop_of_length_le; rw [List.length_take]; omega
theorem cut_snoc (l : List Int) (i j : Nat) (h1 : i ≤ j) (h2 : j < l.length) : cut l i (j + 1) = cut l i j ++ [rd l (j : Int)] := by
  unfold cut
  rw [List.take_succ_eq_append_getElem h2, List.drop_append_of_le_length (by rw [List.length_take]; omega), rd_nat, List.getD_eq_getElem?_getD, List.getElem?_eq_getElem h2]; rfl
theorem cut_length (l : List Int) (i j : Nat) (h1 : i ≤ j) (h2 : j ≤ l.length) : (cut l i j).length = j - i := by
  unfold cut; rw [List.length_drop, List.length_take]; omega
theorem cut_mem (l : List Int) (i j : Nat) (h2 : j ≤ l.length) (c : Int) (hc : c ∈ cut l i j) : ∃ m : Nat, i ≤ m ∧ m < j ∧ c = rd l (m : Int) := by
  unfold cut at hc
  obtain ⟨m, hm, rfl⟩ := List.getElem_of_mem hc
  rw [List.length_drop, List.length_take] at hm
  refine ⟨i + m, by omega, by omega, ?_⟩
  rw [List.getElem_drop, List.getElem_take, rd_nat, List.getD_eq_getElem?_getD, List.getElem?_eq_getElem (by omega)]; rfl

end Go.Proofs.YtoigokgechcaiaaDoor.Dig
