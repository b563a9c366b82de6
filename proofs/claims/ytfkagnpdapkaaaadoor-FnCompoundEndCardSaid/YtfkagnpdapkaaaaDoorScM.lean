/- Words of 64 bits as tests of their places: what the operations on words do to these tests. Plain Lean. -/
import Derived.Test.YtfkagnpdapkaaaaDoorScA
import Derived.Test.YtfkagnpdapkaaaaDoorScC
import Derived.Test.YtfkagnpdapkaaaaDoorQC1
import Derived.Test.YtfkagnpdapkaaaaDoorQE1
import Derived.Test.YtfkagnpdapkaaaaDoorQG1
import Derived.Laws.Externs
namespace Go.Proofs.YtfkagnpdapkaaaaDoor.Bit
open Go Go.Proofs.YtfkagnpdapkaaaaDoor.Swar
set_option linter.unusedVariables false
/-- The number whose bits are the first n tests. -/
def bf (p : Nat → Bool) : Nat → Nat
  | 0 => 0
  | n + 1 => bf p n + 2 ^ n * (p n).toNat
theorem bf_lt (p : Nat → Bool) : ∀ n, bf p n < 2 ^ n
  | 0 => Nat.zero_lt_one
  | n + 1 => by
    have h1 := bf_lt p n
    have h2 : 2 ^ n * (p n).toNat ≤ 2 ^ n * 1 := Nat.mul_le_mul_left _ (Bool.toNat_le _)
    simp only [bf, Nat.pow_succ]
    omega
theorem bf_bit (p : Nat → Bool) : ∀ n i, (bf p n).testBit i = (decide (i < n) && p i)
  | 0, i => by simp [bf]
  | n + 1, i => by
    have h := Nat.testBit_two_pow_mul_add (p n).toNat (bf_lt p n) i
    simp only [bf]
    rw [Nat.add_comm, h, bf_bit p n i]
    by_cases h1 : i < n
    · simp [h1, Nat.lt_succ_of_lt h1]
    · rw [if_neg h1]
      by_cases h2 : i = n
      · subst h2
        cases p i <;> simp
      · have h3 : ¬ i < n + 1 := by omega
        obtain ⟨k, hk⟩ : ∃ k, i - n = k + 1 := ⟨i - n - 1, by omega⟩
        rw [hk, decide_eq_false h3]
        cases p n
        · simp
        · exact Nat.testBit_lt_two_pow (Nat.lt_of_lt_of_le Nat.one_lt_two (by rw [Nat.pow_succ]; have := Nat.two_pow_pos k; omega))
theorem bf_ext {m n : Nat} {p : Nat → Bool} (hm : m < 2 ^ n) (h : ∀ i, i < n → m.testBit i = p i) : m = bf p n := by
  refine Nat.eq_of_testBit_eq fun i => ?_
  rw [bf_bit]
  by_cases h1 : i < n
  · rw [h i h1]; simp [h1]
  · rw [decide_eq_false h1, Bool.false_and]
    exact Nat.testBit_lt_two_pow (Nat.lt_of_lt_of_le hm (Nat.pow_le_pow_right (by decide) (by omega)))
theorem bf_congr {p q : Nat → Bool} {n : Nat} (h : ∀ i, i < n → p i = q i) : bf p n = bf q n :=
  bf_ext (bf_lt p n) fun i hi => by rw [bf_bit, ← h i hi]; simp [hi]
theorem bf_not (p : Nat → Bool) : ∀ n, bf p n + bf (fun i => !p i) n = 2 ^ n - 1
  | 0 => rfl
  | n + 1 => by
    have h := bf_not p n
    have h2 : 0 < 2 ^ n := Nat.two_pow_pos n
    simp only [bf, Nat.pow_succ]
    cases p n <;> simp <;> omega
/-- A word of 64 bits. -/
def W (p : Nat → Bool) : Int := ((bf p 64 : Nat) : Int)
theorem bf64 (p : Nat → Bool) : bf p 64 < 18446744073709551616 := bf_lt p 64
theorem W_range (p : Nat → Bool) : 0 ≤ W p ∧ W p < 18446744073709551616 := by
  have := bf64 p
  unfold W
  omega
theorem W_congr {p q : Nat → Bool} (h : ∀ i, i < 64 → p i = q i) : W p = W q := congrArg Int.ofNat (bf_congr h)
theorem W_bit {p q : Nat → Bool} (h : W p = W q) (i : Nat) (hi : i < 64) : p i = q i := by
  have h2 : bf p 64 = bf q 64 := Int.ofNat.inj h
  have h3 := bf_bit p 64 i
  rw [h2, bf_bit q 64 i] at h3
  simpa [hi] using h3.symm
theorem W_and (p q : Nat → Bool) : Go.bits .and .u64 (W p) (W q) = W fun i => p i && q i := by
  unfold W
  rw [bits_and _ _ (bf64 p) (bf64 q)]
  exact congrArg Int.ofNat (bf_ext (Nat.lt_of_le_of_lt Nat.and_le_left (bf_lt p 64)) fun i hi => by rw [Nat.testBit_and, bf_bit, bf_bit]; simp [hi])
theorem W_or (p q : Nat → Bool) : Go.bits .or .u64 (W p) (W q) = W fun i => p i || q i := by
  unfold W
  rw [bits_or _ _ (bf64 p) (bf64 q)]
  exact congrArg Int.ofNat (bf_ext (Nat.or_lt_two_pow (bf_lt p 64) (bf_lt q 64)) fun i hi => by rw [Nat.testBit_or, bf_bit, bf_bit]; simp [hi])
theorem W_xor (p q : Nat → Bool) : Go.bits .xor .u64 (W p) (W q) = W fun i => p i ^^ q i := by
  unfold W
  rw [bits_xor _ _ (bf64 p) (bf64 q)]
  exact congrArg Int.ofNat (bf_ext (Nat.xor_lt_two_pow (bf_lt p 64) (bf_lt q 64)) fun i hi => by rw [Nat.testBit_xor, bf_bit, bf_bit]; simp [hi])
theorem W_andNot (p q : Nat → Bool) : Go.bits .andNot .u64 (W p) (W q) = W fun i => p i && !q i := by
  have h := bf_not q 64
  have e : 18446744073709551615 - bf q 64 = bf (fun i => !q i) 64 := by omega
  unfold W
  rw [bits_andNot _ _ (bf64 p) (bf64 q), e]
  exact congrArg Int.ofNat (bf_ext (Nat.lt_of_le_of_lt Nat.and_le_left (bf_lt p 64)) fun i hi => by rw [Nat.testBit_and, bf_bit, bf_bit]; simp [hi])
theorem W_ones : (18446744073709551615 : Int) = W fun _ => true := by
  have h := bf_not (fun _ => false) 64
  have e : bf (fun _ => false) 64 = 0 := (bf_ext (m := 0) (Nat.two_pow_pos 64) fun i _ => Nat.zero_testBit i).symm
  unfold W
  simp only [e, Bool.not_false] at h
  rw [show bf (fun _ => true) 64 = 18446744073709551615 by omega]
  rfl
theorem W_zero : (0 : Int) = W fun _ => false := by
  unfold W
  rw [show bf (fun _ => false) 64 = 0 from (bf_ext (m := 0) (Nat.two_pow_pos 64) fun i _ => Nat.zero_testBit i).symm]
  rfl
theorem W_num (n : Nat) (h : n < 18446744073709551616) : ((n : Nat) : Int) = W n.testBit := congrArg Int.ofNat (bf_ext (n := 64) h fun i _ => rfl)
theorem W_shl (p : Nat → Bool) (k : Nat) : IntKind.u64.wrap (W p * 2 ^ k) = W fun i => decide (k ≤ i) && p (i - k) := by
  have e : W p * 2 ^ k = ((bf p 64 * 2 ^ k : Nat) : Int) := by unfold W; simp
  rw [e, IntKind.wrap_u64, show ((bf p 64 * 2 ^ k : Nat) : Int) % 18446744073709551616 = ((bf p 64 * 2 ^ k % 18446744073709551616 : Nat) : Int) by omega]
  refine congrArg Int.ofNat (bf_ext (n := 64) (Nat.mod_lt _ (by decide)) fun i hi => ?_)
  rw [show (18446744073709551616 : Nat) = 2 ^ 64 by decide, Nat.testBit_mod_two_pow, Nat.testBit_mul_two_pow, bf_bit]
  have : i - k < 64 := by omega
  simp [hi, this]
theorem W_shr (p : Nat → Bool) (k : Nat) : W p / 2 ^ k = W fun i => decide (i + k < 64) && p (i + k) := by
  have e : W p / 2 ^ k = ((bf p 64 / 2 ^ k : Nat) : Int) := by unfold W; simp
  rw [e]
  refine congrArg Int.ofNat (bf_ext (n := 64) (Nat.lt_of_le_of_lt (Nat.div_le_self _ _) (bf_lt p 64)) fun i hi => ?_)
  rw [Nat.testBit_div_two_pow, bf_bit]
/-- The carry into a place. -/
def car (p q : Nat → Bool) : Nat → Bool
  | 0 => false
  | n + 1 => (p n && q n) || (car p q n && (p n ^^ q n))
theorem bf_add (p q : Nat → Bool) : ∀ n, bf p n + bf q n = bf (fun i => (p i ^^ q i) ^^ car p q i) n + 2 ^ n * (car p q n).toNat
  | 0 => rfl
  | n + 1 => by
    have h := bf_add p q n
    simp only [bf, car, Nat.pow_succ]
    generalize car p q n = cc at h ⊢
    cases p n <;> cases q n <;> cases cc <;> simp at h ⊢ <;> omega
theorem W_add (p q : Nat → Bool) : IntKind.u64.wrap (W p + W q) = W fun i => (p i ^^ q i) ^^ car p q i := by
  have h := bf_add p q 64
  have h2 := bf64 fun i => (p i ^^ q i) ^^ car p q i
  have h3 : (car p q 64).toNat ≤ 1 := Bool.toNat_le _
  rw [IntKind.wrap_u64]
  unfold W
  omega
/-- Whether a place is escaped, where b tells the backslashes and e whether the first place is. -/
def esc (e : Bool) (b : Nat → Bool) : Nat → Bool
  | 0 => e
  | n + 1 => b n && !esc e b n
section
variable (e : Bool) (b : Nat → Bool)
/-- The backslashes without the first one, if this is escaped. -/
def bs (i : Nat) : Bool := b i && !(decide (i = 0) && e)
/-- What follows these, and the first place, if it is escaped. -/
def fol (i : Nat) : Bool := (decide (1 ≤ i) && bs e b (i - 1)) || (decide (i = 0) && e)
/-- The beginnings at odd places. -/
def odd_ (i : Nat) : Bool := (bs e b i && decide (i % 2 = 1)) && !fol e b i
theorem esc_inv : ∀ k, (bs e b k = true → esc e b (k + 1) = (decide ((k + 1) % 2 = 1) ^^ car (odd_ e b) (bs e b) (k + 1)) ∧ ((odd_ e b k ^^ bs e b k) ^^ car (odd_ e b) (bs e b) k) = !car (odd_ e b) (bs e b) (k + 1)) ∧
    (bs e b k = false → esc e b (k + 1) = false ∧ car (odd_ e b) (bs e b) (k + 1) = false)
  | 0 => by
    simp only [car, odd_, bs, fol, esc]
    cases b 0 <;> cases e <;> simp
  | k + 1 => by
    have h := esc_inv k
    have hp : decide ((k + 1 + 1) % 2 = 1) = !decide ((k + 1) % 2 = 1) := by
      by_cases h1 : (k + 1) % 2 = 1
      · rw [decide_eq_true h1, decide_eq_false (by omega)]; rfl
      · rw [decide_eq_false h1, decide_eq_true (by omega)]; rfl
    have hb : bs e b (k + 1) = b (k + 1) := by simp [bs]
    have hf : fol e b (k + 1) = bs e b k := by simp [fol]
    have ho : odd_ e b (k + 1) = ((b (k + 1) && decide ((k + 1) % 2 = 1)) && !bs e b k) := by unfold odd_; rw [hb, hf]
    have hc : car (odd_ e b) (bs e b) (k + 1 + 1) = ((odd_ e b (k + 1) && bs e b (k + 1)) || (car (odd_ e b) (bs e b) (k + 1) && (odd_ e b (k + 1) ^^ bs e b (k + 1)))) := rfl
    have he : esc e b (k + 1 + 1) = (b (k + 1) && !esc e b (k + 1)) := rfl
    rw [hc, he, hp, ho, hb]
    generalize car (odd_ e b) (bs e b) (k + 1) = c1 at h ⊢
    generalize esc e b (k + 1) = e1 at h ⊢
    generalize decide ((k + 1) % 2 = 1) = par at h ⊢
    generalize bs e b k = b0 at h ⊢
    generalize b (k + 1) = b1 at h ⊢
    revert h
    clear hp hb hf ho hc he
    cases c1 <;> cases e1 <;> cases par <;> cases b0 <;> cases b1 <;> simp
theorem esc_word (i : Nat) : ((decide (i % 2 = 0) ^^ (decide (1 ≤ i) && ((odd_ e b (i - 1) ^^ bs e b (i - 1)) ^^ car (odd_ e b) (bs e b) (i - 1)))) && fol e b i) = esc e b i := by
  match i with
  | 0 => simp [fol, esc]
  | k + 1 =>
    have h := esc_inv e b k
    have hf : fol e b (k + 1) = bs e b k := by simp [fol]
    have hp : decide ((k + 1) % 2 = 0) = !decide ((k + 1) % 2 = 1) := by
      by_cases h1 : (k + 1) % 2 = 1
      · rw [decide_eq_true h1, decide_eq_false (by omega)]; rfl
      · rw [decide_eq_false h1, decide_eq_true (by omega)]; rfl
    rw [hf, hp]
    simp only [Nat.add_sub_cancel, Nat.le_add_left, decide_true, Bool.true_and]
    cases hb : bs e b k
    · simp [(h.2 hb).1]
    · obtain ⟨h1, h2⟩ := h.1 hb
      rw [hb] at h2
      rw [h2, h1]
      cases decide ((k + 1) % 2 = 1) <;> cases car (odd_ e b) (bs e b) (k + 1) <;> rfl
theorem esc_carry (k : Nat) (hk : (k + 1) % 2 = 0) : car (odd_ e b) (bs e b) (k + 1) = esc e b (k + 1) := by
  have h := esc_inv e b k
  cases hb : bs e b k
  · rw [(h.2 hb).1, (h.2 hb).2]
  · rw [(h.1 hb).1, decide_eq_false (by omega)]
    simp
end
/-- The parity of the tests of the last m places up to one. -/
def X (q : Nat → Bool) : Nat → Nat → Bool
  | 0, _ => false
  | m + 1, i => X q m i ^^ (decide (m ≤ i) && q (i - m))
theorem X_add (q : Nat → Bool) (m i : Nat) : ∀ k, X q (m + k) i = (X q m i ^^ (decide (m ≤ i) && X q k (i - m)))
  | 0 => by simp [X]
  | k + 1 => by
    have h := X_add q m i k
    show (X q (m + k) i ^^ (decide (m + k ≤ i) && q (i - (m + k)))) = _
    rw [h]
    show _ = (X q m i ^^ (decide (m ≤ i) && (X q k (i - m) ^^ (decide (k ≤ i - m) && q (i - m - k)))))
    by_cases h1 : m ≤ i
    · rw [decide_eq_true h1, Nat.sub_sub]
      by_cases h2 : m + k ≤ i
      · rw [decide_eq_true h2, decide_eq_true (show k ≤ i - m by omega)]
        simp
      · rw [decide_eq_false h2, decide_eq_false (show ¬ k ≤ i - m by omega)]
        simp
    · rw [decide_eq_false h1, decide_eq_false (show ¬ m + k ≤ i by omega)]
      simp
/-- The parity of the first n tests. -/
def par (q : Nat → Bool) : Nat → Bool
  | 0 => false
  | n + 1 => par q n ^^ q n
theorem X_par (q : Nat → Bool) (i : Nat) : ∀ m, m ≤ i + 1 → X q m i = (par q (i + 1) ^^ par q (i + 1 - m))
  | 0, _ => by simp [X]
  | m + 1, h => by
    have h1 := X_par q i m (by omega)
    have h2 : i + 1 - m = (i - m) + 1 := by omega
    have h3 : i + 1 - (m + 1) = i - m := by omega
    rw [X, h1, h2, h3, decide_eq_true (show m ≤ i by omega)]
    simp only [par, Bool.true_and]
    cases par q i <;> cases q i <;> cases par q (i - m) <;> cases q (i - m) <;> rfl
theorem X_past (q : Nat → Bool) (i m : Nat) (h : i < m) : X q m i = par q (i + 1) := by
  obtain ⟨k, rfl⟩ : ∃ k, m = i + 1 + k := ⟨m - (i + 1), by omega⟩
  rw [X_add, X_par q i (i + 1) (Nat.le_refl _), decide_eq_false (show ¬ i + 1 ≤ i by omega)]
  simp [par]
theorem X_dbl (q : Nat → Bool) (m : Nat) : (fun i => X q m i ^^ (decide (m ≤ i) && X q m (i - m))) = X q (m + m) := funext fun i => (X_add q m i m).symm
/-- How many of the first n tests hold. -/
def cnt (p : Nat → Bool) : Nat → Nat
  | 0 => 0
  | n + 1 => cnt p n + (p n).toNat
theorem cnt_le (p : Nat → Bool) : ∀ n, cnt p n ≤ n
  | 0 => Nat.le_refl _
  | n + 1 => by
    have h1 := cnt_le p n
    have h2 : (p n).toNat ≤ 1 := Bool.toNat_le _
    simp only [cnt]
    omega
end Go.Proofs.YtfkagnpdapkaaaaDoor.Bit
/- The bracket that closes another, by brackets and texts alone: what a scan byte by byte tells at each place, and what a block of 64 tells of it. Plain Lean. -/
namespace Go.Proofs.YtfkagnpdapkaaaaDoor.Bit
open Go Go.Proofs.YtfkagnpdapkaaaaDoor.Swar
set_option linter.unusedVariables false
section
variable (g : Nat → Int)
/-- Whether the byte at a place is escaped. -/
def eS : Nat → Bool
  | 0 => false
  | n + 1 => (g n == 92) && !eS n
/-- Whether a place is inside of a text. -/
def iS : Nat → Bool
  | 0 => false
  | n + 1 => iS n ^^ ((g n == 34) && !eS g n)
/-- Whether a bracket opens, or closes, at a place. -/
def oS (n : Nat) : Bool := ((g n == 123) || (g n == 91)) && !(iS g n || eS g n)
def cS (n : Nat) : Bool := ((g n == 125) || (g n == 93)) && !(iS g n || eS g n)
/-- How many brackets are open ahead of a place. -/
def dS : Nat → Int
  | 0 => 0
  | n + 1 => dS n + (oS g n).toNat - (cS g n).toNat
/-- The bracket has not been closed ahead of a place. -/
def Live (n : Nat) : Prop := ∀ k, k < n → cS g k = true → dS g (k + 1) ≠ 0
/-- It is closed at a place. -/
def ShutAt (n : Nat) : Prop := Live g n ∧ cS g n = true ∧ dS g (n + 1) = 0
theorem Live.zero : Live g 0 := fun k hk => absurd hk (Nat.not_lt_zero k)
variable {g}
theorem Live.next {n : Nat} (h : Live g n) (h2 : cS g n = true → dS g (n + 1) ≠ 0) : Live g (n + 1) := fun k hk hc => by
  by_cases h3 : k < n
  · exact h k h3 hc
  · obtain rfl : k = n := by omega
    exact h2 hc
theorem Live.le {n m : Nat} (h : Live g n) (h2 : m ≤ n) : Live g m := fun k hk => h k (by omega)
theorem ShutAt.uniq {n m : Nat} (h1 : ShutAt g n) (h2 : ShutAt g m) : n = m := by
  by_cases h : n < m
  · exact absurd h1.2.2 (h2.1 n h h1.2.1)
  · by_cases h3 : m < n
    · exact absurd h2.2.2 (h1.1 m h3 h2.2.1)
    · omega
theorem Live.shut_le {n m : Nat} (h : Live g n) (h2 : ShutAt g m) : n ≤ m := by
  by_cases h3 : m < n
  · exact absurd h2.2.2 (h m h3 h2.2.1)
  · omega
/-- A byte that is escaped changes nothing. -/
theorem esc_next {n : Nat} (h : eS g n = true) : eS g (n + 1) = false ∧ iS g (n + 1) = iS g n ∧ dS g (n + 1) = dS g n ∧ (Live g n → Live g (n + 1)) := by
  have hc : cS g n = false := by unfold cS; simp [h]
  have ho : oS g n = false := by unfold oS; simp [h]
  refine ⟨?_, ?_, ?_, fun hl => hl.next fun h2 => ?_⟩
  · simp [eS, h]
  · simp [iS, h]
  · simp [dS, hc, ho]
  · rw [hc] at h2; cases h2
/-- A backslash that is not escaped. -/
theorem back_next {n : Nat} (h : eS g n = false) (hb : g n = 92) : eS g (n + 1) = true ∧ iS g (n + 1) = iS g n ∧ dS g (n + 1) = dS g n ∧ (Live g n → Live g (n + 1)) := by
  have hc : cS g n = false := by unfold cS; simp [hb]
  have ho : oS g n = false := by unfold oS; simp [hb]
  refine ⟨?_, ?_, ?_, fun hl => hl.next fun h2 => ?_⟩
  · simp [eS, h, hb]
  · simp [iS, hb]
  · simp [dS, hc, ho]
  · rw [hc] at h2; cases h2
/-- A quote that is not escaped. -/
theorem quote_next {n : Nat} (h : eS g n = false) (hb : g n = 34) : eS g (n + 1) = false ∧ iS g (n + 1) = !iS g n ∧ dS g (n + 1) = dS g n ∧ (Live g n → Live g (n + 1)) := by
  have hc : cS g n = false := by unfold cS; simp [hb]
  have ho : oS g n = false := by unfold oS; simp [hb]
  refine ⟨?_, ?_, ?_, fun hl => hl.next fun h2 => ?_⟩
  · simp [eS, hb]
  · simp [iS, h, hb]
  · simp [dS, hc, ho]
  · rw [hc] at h2; cases h2
/-- Another byte inside of a text. -/
theorem text_next {n : Nat} (h : eS g n = false) (hi : iS g n = true) (h1 : g n ≠ 34) (h2 : g n ≠ 92) : eS g (n + 1) = false ∧ iS g (n + 1) = true ∧ dS g (n + 1) = dS g n ∧ (Live g n → Live g (n + 1)) := by
  have hc : cS g n = false := by unfold cS; simp [hi]
  have ho : oS g n = false := by unfold oS; simp [hi]
  have f1 : (g n == 34) = false := beq_eq_false_iff_ne.mpr h1
  have f2 : (g n == 92) = false := beq_eq_false_iff_ne.mpr h2
  refine ⟨?_, ?_, ?_, fun hl => hl.next fun h2 => ?_⟩
  · simp [eS, f2]
  · simp [iS, f1, hi]
  · simp [dS, hc, ho]
  · rw [hc] at h2; cases h2
/-- A byte outside of texts that is none of these. -/
theorem out_next {n : Nat} (h : eS g n = false) (hi : iS g n = false) (h1 : g n ≠ 34) (h2 : g n ≠ 92) (h3 : g n ≠ 123) (h4 : g n ≠ 91) (h5 : g n ≠ 125) (h6 : g n ≠ 93) : eS g (n + 1) = false ∧ iS g (n + 1) = false ∧ dS g (n + 1) = dS g n ∧ (Live g n → Live g (n + 1)) := by
  have f1 : (g n == 34) = false := beq_eq_false_iff_ne.mpr h1
  have f2 : (g n == 92) = false := beq_eq_false_iff_ne.mpr h2
  have f3 : (g n == 123) = false := beq_eq_false_iff_ne.mpr h3
  have f4 : (g n == 91) = false := beq_eq_false_iff_ne.mpr h4
  have f5 : (g n == 125) = false := beq_eq_false_iff_ne.mpr h5
  have f6 : (g n == 93) = false := beq_eq_false_iff_ne.mpr h6
  have hc : cS g n = false := by unfold cS; simp [f5, f6]
  have ho : oS g n = false := by unfold oS; simp [f3, f4]
  refine ⟨?_, ?_, ?_, fun hl => hl.next fun h2 => ?_⟩
  · simp [eS, f2]
  · simp [iS, f1, hi]
  · simp [dS, hc, ho]
  · rw [hc] at h2; cases h2
/-- A bracket outside of texts. -/
theorem open_next {n : Nat} (h : eS g n = false) (hi : iS g n = false) (hb : g n = 123 ∨ g n = 91) : eS g (n + 1) = false ∧ iS g (n + 1) = false ∧ dS g (n + 1) = dS g n + 1 ∧ (Live g n → Live g (n + 1)) := by
  have hc : cS g n = false := by unfold cS; rcases hb with hb | hb <;> simp [hb]
  have ho : oS g n = true := by unfold oS; rcases hb with hb | hb <;> simp [hb, h, hi]
  refine ⟨?_, ?_, ?_, fun hl => hl.next fun h2 => ?_⟩
  · rcases hb with hb | hb <;> simp [eS, hb]
  · rcases hb with hb | hb <;> simp [iS, hb, hi]
  · simp [dS, hc, ho]
  · rw [hc] at h2; cases h2
theorem close_next {n : Nat} (h : eS g n = false) (hi : iS g n = false) (hb : g n = 125 ∨ g n = 93) : eS g (n + 1) = false ∧ iS g (n + 1) = false ∧ dS g (n + 1) = dS g n - 1 ∧ cS g n = true := by
  have hc : cS g n = true := by unfold cS; rcases hb with hb | hb <;> simp [hb, h, hi]
  have ho : oS g n = false := by unfold oS; rcases hb with hb | hb <;> simp [hb]
  refine ⟨?_, ?_, ?_, hc⟩
  · rcases hb with hb | hb <;> simp [eS, hb]
  · rcases hb with hb | hb <;> simp [iS, hb, hi]
  · simp [dS, hc, ho]
end
-- ---- a block of v bytes from the place n
section
variable (g : Nat → Int) (n v : Nat)
/-- The tests of a block's bytes, of the first v alone. -/
def tQ (i : Nat) : Bool := decide (i < v) && (g (n + i) == 34)
def tB (i : Nat) : Bool := decide (i < v) && (g (n + i) == 92)
def tO (i : Nat) : Bool := decide (i < v) && ((g (n + i) == 123) || (g (n + i) == 91))
def tC (i : Nat) : Bool := decide (i < v) && ((g (n + i) == 125) || (g (n + i) == 93))
/-- The block's escaped places. -/
def tE : Nat → Bool := esc (eS g n) (tB g n v)
/-- The block's places inside of texts, each behind its byte. -/
def tI (i : Nat) : Bool := par (fun i => tQ g n v i && !tE g n v i) (i + 1) ^^ iS g n
def opn (i : Nat) : Bool := tO g n v i && !(tI g n v i || tE g n v i)
def cls (i : Nat) : Bool := tC g n v i && !(tI g n v i || tE g n v i)
theorem tE_eS : ∀ i, i ≤ v → tE g n v i = eS g (n + i)
  | 0, _ => rfl
  | i + 1, h => by
    have h1 := tE_eS i (by omega)
    show (tB g n v i && !tE g n v i) = ((g (n + i) == 92) && !eS g (n + i))
    rw [h1]
    unfold tB
    rw [decide_eq_true (show i < v by omega), Bool.true_and]
theorem par_iS : ∀ i, i ≤ v → (par (fun i => tQ g n v i && !tE g n v i) i ^^ iS g n) = iS g (n + i)
  | 0, _ => by simp [par]
  | i + 1, h => by
    have h1 := par_iS i (by omega)
    have h2 := tE_eS g n v i (by omega)
    show ((par (fun i => tQ g n v i && !tE g n v i) i ^^ (tQ g n v i && !tE g n v i)) ^^ iS g n) = (iS g (n + i) ^^ ((g (n + i) == 34) && !eS g (n + i)))
    rw [← h1, h2]
    unfold tQ
    rw [decide_eq_true (show i < v by omega), Bool.true_and]
    cases par (fun i => (decide (i < v) && (g (n + i) == 34)) && !tE g n v i) i <;> cases iS g n <;> cases (g (n + i) == 34) <;> cases eS g (n + i) <;> rfl
theorem par_past : ∀ k, (par (fun i => tQ g n v i && !tE g n v i) (v + k) ^^ iS g n) = iS g (n + v)
  | 0 => par_iS g n v v (Nat.le_refl _)
  | k + 1 => by
    have h1 := par_past k
    show ((par (fun i => tQ g n v i && !tE g n v i) (v + k) ^^ (tQ g n v (v + k) && !tE g n v (v + k))) ^^ iS g n) = iS g (n + v)
    have h2 : tQ g n v (v + k) = false := by unfold tQ; rw [decide_eq_false (by omega)]; rfl
    rw [h2, Bool.false_and, Bool.xor_false]
    exact h1
theorem tI_last (hv : v ≤ 64) : tI g n v 63 = iS g (n + v) := by
  have h := par_past g n v (64 - v)
  rw [show v + (64 - v) = 63 + 1 by omega] at h
  exact h
theorem opn_oS (i : Nat) (hi : i < v) : opn g n v i = oS g (n + i) := by
  have h1 : tI g n v i = (iS g (n + i) ^^ ((g (n + i) == 34) && !eS g (n + i))) := par_iS g n v (i + 1) (by omega)
  have h2 := tE_eS g n v i (by omega)
  unfold opn oS tO
  rw [h1, h2, decide_eq_true hi, Bool.true_and]
  by_cases hb : g (n + i) = 34
  · simp [hb]
  · rw [beq_eq_false_iff_ne.mpr hb]; simp
theorem cls_cS (i : Nat) (hi : i < v) : cls g n v i = cS g (n + i) := by
  have h1 : tI g n v i = (iS g (n + i) ^^ ((g (n + i) == 34) && !eS g (n + i))) := par_iS g n v (i + 1) (by omega)
  have h2 := tE_eS g n v i (by omega)
  unfold cls cS tC
  rw [h1, h2, decide_eq_true hi, Bool.true_and]
  by_cases hb : g (n + i) = 34
  · simp [hb]
  · rw [beq_eq_false_iff_ne.mpr hb]; simp
theorem opn_past (i : Nat) (hi : ¬ i < v) : opn g n v i = false := by unfold opn tO; rw [decide_eq_false hi]; rfl
theorem cls_past (i : Nat) (hi : ¬ i < v) : cls g n v i = false := by unfold cls tC; rw [decide_eq_false hi]; rfl
theorem dS_cnt : ∀ i, i ≤ v → dS g (n + i) = dS g n + cnt (opn g n v) i - cnt (cls g n v) i
  | 0, _ => by simp [cnt]
  | i + 1, h => by
    have h1 := dS_cnt i (by omega)
    show dS g (n + i) + (oS g (n + i)).toNat - (cS g (n + i)).toNat = _
    rw [h1, ← opn_oS g n v i (by omega), ← cls_cS g n v i (by omega)]
    simp only [cnt]
    omega
theorem cnt_past (p : Nat → Bool) (hp : ∀ i, ¬ i < v → p i = false) : ∀ k, cnt p (v + k) = cnt p v
  | 0 => rfl
  | k + 1 => by
    have := cnt_past p hp k
    show cnt p (v + k) + (p (v + k)).toNat = cnt p v
    rw [this, hp _ (by omega)]
    rfl
theorem dS_block (hv : v ≤ 64) : dS g (n + v) = dS g n + cnt (opn g n v) 64 - cnt (cls g n v) 64 := by
  have h1 := dS_cnt g n v v (Nat.le_refl _)
  have h2 := cnt_past v (opn g n v) (opn_past g n v) (64 - v)
  have h3 := cnt_past v (cls g n v) (cls_past g n v) (64 - v)
  rw [show v + (64 - v) = 64 by omega] at h2 h3
  rw [h1, h2, h3]
theorem cnt_mono (p : Nat → Bool) : ∀ i k, cnt p i ≤ cnt p (i + k)
  | i, 0 => Nat.le_refl _
  | i, k + 1 => Nat.le_trans (cnt_mono p i k) (Nat.le_add_right _ _)
/-- Fewer brackets close than are open: none closes the first one. -/
theorem live_block (hv : v ≤ 64) (hl : Live g n) (hd : (cnt (cls g n v) 64 : Int) < dS g n) : Live g (n + v) := fun k hk hc => by
  by_cases h : k < n
  · exact hl k h hc
  · obtain ⟨i, rfl⟩ : ∃ i, k = n + i := ⟨k - n, by omega⟩
    have h1 := dS_cnt g n v (i + 1) (by omega)
    have h2 := cnt_mono (cls g n v) (i + 1) (64 - (i + 1))
    rw [show i + 1 + (64 - (i + 1)) = 64 by omega] at h2
    show dS g (n + (i + 1)) ≠ 0
    omega
/-- No bracket between two places of a block: nothing changes. -/
theorem dS_gap (j : Nat) : ∀ k, j + k ≤ v → (∀ i, j ≤ i → i < j + k → (opn g n v i || cls g n v i) = false) → dS g (n + (j + k)) = dS g (n + j) ∧ (Live g (n + j) → Live g (n + (j + k)))
  | 0, _, _ => ⟨rfl, id⟩
  | k + 1, h, hb => by
    obtain ⟨h1, h2⟩ := dS_gap j k (by omega) fun i hi hi2 => hb i hi (by omega)
    have h3 := hb (j + k) (by omega) (by omega)
    rw [Bool.or_eq_false_iff, opn_oS g n v _ (by omega), cls_cS g n v _ (by omega)] at h3
    refine ⟨?_, fun hl => (h2 hl).next fun hc => ?_⟩
    · show dS g (n + (j + k)) + (oS g (n + (j + k))).toNat - (cS g (n + (j + k))).toNat = _
      rw [h3.1, h3.2, h1]
      simp
    · rw [h3.2] at hc; cases hc
end
/-- The first of 64 tests that holds. -/
theorem first_of (p : Nat → Bool) : ∀ n, (∀ i, i < n → p i = false) ∨ ∃ i, i < n ∧ p i = true ∧ ∀ k, k < i → p k = false
  | 0 => .inl fun i h => absurd h (Nat.not_lt_zero i)
  | n + 1 => by
    rcases first_of p n with h | ⟨i, h1, h2, h3⟩
    · by_cases hn : p n = true
      · exact .inr ⟨n, Nat.lt_succ_self n, hn, h⟩
      · refine .inl fun i hi => ?_
        by_cases h4 : i < n
        · exact h i h4
        · obtain rfl : i = n := by omega
          exact Bool.eq_false_iff.mpr hn
    · exact .inr ⟨i, by omega, h2, h3⟩
/-- A word's lowest bit, and the word without it. -/
theorem bf_low (p : Nat → Bool) (i : Nat) (hi : i < 64) (h1 : p i = true) (h0 : ∀ k, k < i → p k = false) : ∃ r, bf p 64 = 2 ^ i * (2 * r + 1) := by
  refine ⟨bf p 64 / 2 ^ (i + 1), ?_⟩
  refine Nat.eq_of_testBit_eq fun k => ?_
  have h2 : (2 ^ i * (2 * (bf p 64 / 2 ^ (i + 1)) + 1)).testBit k = if k < i then (0 : Nat).testBit k else (2 * (bf p 64 / 2 ^ (i + 1)) + 1).testBit (k - i) := by
    have := Nat.testBit_two_pow_mul_add (2 * (bf p 64 / 2 ^ (i + 1)) + 1) (Nat.two_pow_pos i) k
    rwa [Nat.add_zero] at this
  rw [h2, bf_bit]
  by_cases hk : k < i
  · rw [if_pos hk, h0 k hk]; simp
  · rw [if_neg hk]
    obtain ⟨m, rfl⟩ : ∃ m, k = i + m := ⟨k - i, by omega⟩
    rw [show i + m - i = m by omega]
    match m with
    | 0 => simp [h1, hi]
    | m + 1 =>
      have h3 : (2 * (bf p 64 / 2 ^ (i + 1)) + 1).testBit (m + 1) = (bf p 64 / 2 ^ (i + 1)).testBit m := by
        have := Nat.testBit_two_pow_mul_add (bf p 64 / 2 ^ (i + 1)) (show 1 < 2 ^ 1 by decide) (m + 1)
        rw [Nat.pow_one] at this
        rw [this]
        simp
      rw [h3, Nat.testBit_div_two_pow, bf_bit, show i + (m + 1) = m + (i + 1) by omega]
theorem W_clear (p : Nat → Bool) (i : Nat) (hi : i < 64) (h1 : p i = true) (h0 : ∀ k, k < i → p k = false) : Go.bits .and .u64 (W p) (W p - 1) = W fun k => decide (i + 1 ≤ k) && p k := by
  obtain ⟨r, hr⟩ := bf_low p i hi h1 h0
  have hp := Nat.two_pow_pos i
  have hlt := bf64 p
  have e : W p - 1 = ((bf p 64 - 1 : Nat) : Int) := by
    unfold W
    have : 1 ≤ bf p 64 := by rw [hr]; exact Nat.le_trans hp (Nat.le_mul_of_pos_right _ (by omega))
    omega
  rw [e]
  unfold W
  rw [bits_and _ _ hlt (by omega)]
  refine congrArg Int.ofNat (bf_ext (n := 64) (Nat.lt_of_le_of_lt Nat.and_le_left hlt) fun k hk => ?_)
  have e2 : bf p 64 - 1 = 2 ^ i * (2 * r) + (2 ^ i - 1) := by rw [hr, Nat.mul_add, Nat.mul_one]; omega
  have h2 := Nat.testBit_two_pow_mul_add (2 * r) (show 2 ^ i - 1 < 2 ^ i by omega) k
  have h3 := Nat.testBit_two_pow_mul_add (2 * r + 1) hp k
  rw [Nat.add_zero, ← hr, bf_bit] at h3
  rw [Nat.testBit_and, bf_bit, e2, h2]
  by_cases h4 : k < i
  · rw [h0 k h4]; simp
  · rw [if_neg h4] at h3 ⊢
    obtain ⟨m, rfl⟩ : ∃ m, k = i + m := ⟨k - i, by omega⟩
    rw [show i + m - i = m by omega] at h3 ⊢
    match m with
    | 0 =>
      have h9 : ¬ i + 1 ≤ i := by omega
      simp [h9]
    | m + 1 =>
      have h5 : (2 * r).testBit (m + 1) = (2 * r + 1).testBit (m + 1) := by
        have h6 := Nat.testBit_two_pow_mul_add r (show 1 < 2 ^ 1 by decide) (m + 1)
        have h7 := Nat.testBit_two_pow_mul_add r (show 0 < 2 ^ 1 by decide) (m + 1)
        rw [Nat.pow_one] at h6 h7
        rw [Nat.add_zero] at h7
        rw [h6, h7]
        simp
      rw [h5, ← h3, decide_eq_true (show i + 1 ≤ i + (m + 1) by omega)]
      simp [hk]
end Go.Proofs.YtfkagnpdapkaaaaDoor.Bit
/- How many bits of a word are set, as math/bits counts them. Plain Lean. -/
namespace Go.Proofs.YtfkagnpdapkaaaaDoor.Bit
open Go Go.Proofs.YtfkagnpdapkaaaaDoor.Swar
set_option linter.unusedVariables false
/-- The number of a row of fields of k bits each, the first one the lowest. -/
def val (k : Nat) : List Nat → Nat
  | [] => 0
  | f :: r => f + 2 ^ k * val k r
def prs : List Nat → List Nat
  | a :: b :: r => (a + b) :: prs r
  | _ => []
def evs : List Nat → List Nat
  | a :: b :: r => a :: evs r
  | _ => []
def ods : List Nat → List Nat
  | a :: b :: r => b :: ods r
  | _ => []
def nxt : List Nat → List Nat
  | a :: b :: r => (a + b) :: nxt (b :: r)
  | [a] => [a]
  | [] => []
theorem and_at (m a c x y : Nat) (ha : a < 2 ^ m) (hc : c < 2 ^ m) : (a + 2 ^ m * x) &&& (c + 2 ^ m * y) = (a &&& c) + 2 ^ m * (x &&& y) := by
  refine Nat.eq_of_testBit_eq fun i => ?_
  have h1 := Nat.testBit_two_pow_mul_add x ha i
  have h2 := Nat.testBit_two_pow_mul_add y hc i
  have h3 := Nat.testBit_two_pow_mul_add (x &&& y) (show a &&& c < 2 ^ m from Nat.lt_of_le_of_lt Nat.and_le_left ha) i
  rw [Nat.testBit_and, Nat.add_comm a, Nat.add_comm c, Nat.add_comm (a &&& c), h1, h2, h3]
  split <;> simp
theorem and_ev (k : Nat) : ∀ (n : Nat) (l : List Nat), l.length = 2 * n → (∀ f ∈ l, f < 2 ^ k) → val k l &&& val (2 * k) (List.replicate n (2 ^ k - 1)) = val (2 * k) (evs l)
  | 0, l, hl, hf => by
    obtain rfl : l = [] := List.eq_nil_of_length_eq_zero (by omega)
    simp [val, evs]
  | n + 1, l, hl, hf => by
    match l, hl with
    | a :: b :: r, hl =>
      have ih := and_ev k n r (by simp at hl; omega) fun f h => hf f (by simp [h])
      have ha := hf a (by simp)
      have hb := hf b (by simp)
      have h2 : 2 ^ (2 * k) = 2 ^ k * 2 ^ k := by rw [Nat.two_mul, Nat.pow_add]
      have hp := Nat.two_pow_pos k
      have hab : a + 2 ^ k * b < 2 ^ (2 * k) := by
        have : 2 ^ k * b + 2 ^ k ≤ 2 ^ k * 2 ^ k := by rw [← Nat.mul_succ]; exact Nat.mul_le_mul_left _ hb
        omega
      have hm : 2 ^ k - 1 < 2 ^ (2 * k) := by
        have : 2 ^ k * 1 ≤ 2 ^ k * 2 ^ k := Nat.mul_le_mul_left _ hp
        omega
      have e1 : val k (a :: b :: r) = (a + 2 ^ k * b) + 2 ^ (2 * k) * val k r := by
        simp only [val, h2]
        rw [Nat.mul_add, Nat.mul_assoc]
        omega
      have e2 : (a + 2 ^ k * b) &&& (2 ^ k - 1) = a := by
        rw [Nat.and_two_pow_sub_one_eq_mod, Nat.add_mul_mod_self_left, Nat.mod_eq_of_lt ha]
      rw [e1, List.replicate_succ]
      simp only [val, evs]
      rw [and_at (2 * k) _ _ _ _ hab hm, ih, e2]
theorem val_shr (k a : Nat) (r : List Nat) (ha : a < 2 ^ k) : val k (a :: r) / 2 ^ k = val k r := by
  simp only [val]
  rw [Nat.add_mul_div_left _ _ (Nat.two_pow_pos k), Nat.div_eq_of_lt ha, Nat.zero_add]
theorem val_zero (k : Nat) : ∀ l : List Nat, val k (l ++ [0]) = val k l
  | [] => by simp [val]
  | a :: r => by simp only [List.cons_append, val, val_zero k r]
theorem evs_tail : ∀ (n a : Nat) (r : List Nat), (a :: r).length = 2 * n → evs (r ++ [0]) = ods (a :: r)
  | 0, a, r, h => by simp at h
  | n + 1, a, [], h => by simp at h; omega
  | n + 1, a, [b], h => rfl
  | n + 1, a, b :: c :: r, h => by
    have ih := evs_tail n c r (by simp at h ⊢; omega)
    show b :: evs (r ++ [0]) = b :: ods (c :: r)
    rw [ih]
theorem val_add (k : Nat) : ∀ l : List Nat, val k (ods l) + val k (evs l) = val k (prs l)
  | [] => rfl
  | [a] => rfl
  | a :: b :: r => by
    have ih := val_add k r
    simp only [ods, evs, prs, val, ← ih, Nat.mul_add]
    omega
theorem val_nxt (k : Nat) : ∀ (a : Nat) (r : List Nat), val k r + val k (a :: r) = val k (nxt (a :: r))
  | a, [] => by simp [val, nxt]
  | a, b :: r => by
    have ih := val_nxt k b r
    have e : val k (b :: r) = b + 2 ^ k * val k r := rfl
    rw [show val k (nxt (a :: b :: r)) = (a + b) + 2 ^ k * val k (nxt (b :: r)) from rfl, ← ih, Nat.mul_add, show val k (a :: b :: r) = a + 2 ^ k * val k (b :: r) from rfl]
    generalize val k (b :: r) = X at e ⊢
    omega
theorem evs_nxt : ∀ (n : Nat) (l : List Nat), l.length = 2 * n → evs (nxt l) = prs l
  | 0, l, h => by
    obtain rfl : l = [] := List.eq_nil_of_length_eq_zero (by omega)
    rfl
  | n + 1, l, h => by
    match l, h with
    | [a, b], h => rfl
    | a :: b :: c :: r, h =>
      have ih := evs_nxt n (c :: r) (by simp at h ⊢; omega)
      show (a + b) :: evs (nxt (c :: r)) = (a + b) :: prs (c :: r)
      rw [ih]
theorem nxt_length : ∀ l : List Nat, (nxt l).length = l.length
  | [] => rfl
  | [a] => rfl
  | a :: b :: r => by
    have := nxt_length (b :: r)
    simp only [nxt, List.length_cons] at this ⊢
    omega
theorem nxt_le (c : Nat) : ∀ l : List Nat, (∀ f ∈ l, f ≤ c) → ∀ f ∈ nxt l, f ≤ 2 * c
  | [], h, f, hf => by cases hf
  | [a], h, f, hf => by
    have := h a (by simp)
    simp only [nxt, List.mem_singleton] at hf
    omega
  | a :: b :: r, h, f, hf => by
    simp only [nxt] at hf
    rcases List.mem_cons.1 hf with rfl | hf
    · have := h a (by simp)
      have := h b (by simp)
      omega
    · exact nxt_le c (b :: r) (fun x hx => h x (List.mem_cons_of_mem _ hx)) f hf
theorem prs_length : ∀ (n : Nat) (l : List Nat), l.length = 2 * n → (prs l).length = n
  | 0, l, h => by
    obtain rfl : l = [] := List.eq_nil_of_length_eq_zero (by omega)
    rfl
  | n + 1, l, h => by
    match l, h with
    | a :: b :: r, h =>
      have ih := prs_length n r (by simp at h; omega)
      simp only [prs, List.length_cons, ih]
theorem prs_le (c : Nat) : ∀ l : List Nat, (∀ f ∈ l, f ≤ c) → ∀ f ∈ prs l, f ≤ 2 * c
  | [], h, f, hf => by cases hf
  | [a], h, f, hf => by cases hf
  | a :: b :: r, h, f, hf => by
    simp only [prs] at hf
    rcases List.mem_cons.1 hf with rfl | hf
    · have := h a (by simp)
      have := h b (by simp)
      omega
    · exact prs_le c r (fun x hx => h x (by simp [hx])) f hf
theorem prs_sum : ∀ (n : Nat) (l : List Nat), l.length = 2 * n → (prs l).sum = l.sum
  | 0, l, h => by
    obtain rfl : l = [] := List.eq_nil_of_length_eq_zero (by omega)
    rfl
  | n + 1, l, h => by
    match l, h with
    | a :: b :: r, h =>
      have ih := prs_sum n r (by simp at h; omega)
      simp only [prs, List.sum_cons, ih]
      omega
/-- The bits themselves. -/
def tb (p : Nat → Bool) : Nat → Nat → List Nat
  | 0, _ => []
  | n + 1, i => (p i).toNat :: tb p n (i + 1)
theorem tb_length (p : Nat → Bool) : ∀ n i, (tb p n i).length = n
  | 0, _ => rfl
  | n + 1, i => by simp only [tb, List.length_cons, tb_length p n (i + 1)]
theorem tb_le (p : Nat → Bool) : ∀ n i, ∀ f ∈ tb p n i, f ≤ 1
  | 0, _, f, hf => by cases hf
  | n + 1, i, f, hf => by
    rcases List.mem_cons.1 hf with rfl | hf
    · exact Bool.toNat_le _
    · exact tb_le p n (i + 1) f hf
theorem tb_val (p : Nat → Bool) : ∀ n i, bf p (i + n) = bf p i + 2 ^ i * val 1 (tb p n i)
  | 0, i => by simp [tb, val]
  | n + 1, i => by
    have ih := tb_val p n (i + 1)
    rw [show i + (n + 1) = i + 1 + n by omega, ih]
    simp only [bf, tb, val, Nat.pow_succ, Nat.mul_add]
    rw [Nat.pow_zero, Nat.one_mul, Nat.mul_assoc]
    omega
theorem tb_sum (p : Nat → Bool) : ∀ n i, (tb p n i).sum + cnt p i = cnt p (i + n)
  | 0, i => by simp [tb]
  | n + 1, i => by
    have ih := tb_sum p n (i + 1)
    rw [show i + (n + 1) = i + 1 + n by omega, ← ih]
    simp only [tb, List.sum_cons, cnt]
    omega
/-- One of the first two steps. -/
theorem pop_step (k n : Nat) (l : List Nat) (hl : l.length = 2 * n) (hn : 0 < n) (hf : ∀ f ∈ l, f < 2 ^ k) :
    (val k l / 2 ^ k &&& val (2 * k) (List.replicate n (2 ^ k - 1))) + (val k l &&& val (2 * k) (List.replicate n (2 ^ k - 1))) = val (2 * k) (prs l) := by
  rw [and_ev k n l hl hf, ← val_add]
  congr 1
  match l, hl with
  | [], hl => simp at hl; omega
  | a :: r, hl =>
    rw [val_shr k a r (hf a (by simp)), ← val_zero, and_ev k n (r ++ [0]) (by simp at hl ⊢; omega) fun f h => ?_, evs_tail n a r hl]
    rcases List.mem_append.1 h with h | h
    · exact hf f (by simp [h])
    · rw [List.mem_singleton] at h
      subst h
      exact Nat.two_pow_pos k
/-- The third step. -/
theorem pop_third (k n c : Nat) (l : List Nat) (hl : l.length = 2 * n) (hn : 0 < n) (hf : ∀ f ∈ l, f ≤ c) (hc : 2 * c < 2 ^ k) :
    (val k l / 2 ^ k + val k l) &&& val (2 * k) (List.replicate n (2 ^ k - 1)) = val (2 * k) (prs l) := by
  match l, hl with
  | [], hl => simp at hl; omega
  | a :: r, hl =>
    have ha := hf a (by simp)
    rw [val_shr k a r (by omega), val_nxt, and_ev k n _ (by rw [nxt_length]; exact hl) (fun f h => by have := nxt_le c _ hf f h; omega), evs_nxt n _ hl]
/-- A word's bits in eight sums, one a byte. -/
theorem pop_bytes (p : Nat → Bool) : ∃ l : List Nat, l.length = 8 ∧ (∀ f ∈ l, f ≤ 8) ∧ l.sum = cnt p 64 ∧
    ((bf p 64 / 2 &&& 6148914691236517205) + (bf p 64 &&& 6148914691236517205) < 18446744073709551616 ∧
    ∃ x2, ((((bf p 64 / 2 &&& 6148914691236517205) + (bf p 64 &&& 6148914691236517205)) / 4 &&& 3689348814741910323) + (((bf p 64 / 2 &&& 6148914691236517205) + (bf p 64 &&& 6148914691236517205)) &&& 3689348814741910323)) = x2 ∧ x2 / 16 + x2 < 18446744073709551616 ∧ (x2 / 16 + x2) &&& 1085102592571150095 = val 8 l) := by
  have h0 := tb_val p 64 0
  have hs := tb_sum p 64 0
  rw [Nat.zero_add, show bf p 0 = 0 from rfl, Nat.pow_zero, Nat.one_mul, Nat.zero_add] at h0
  rw [Nat.zero_add, show cnt p 0 = 0 from rfl, Nat.add_zero] at hs
  have hl0 := tb_length p 64 0
  have hf0 := tb_le p 64 0
  generalize tb p 64 0 = l0 at h0 hs hl0 hf0
  have e0 : bf p 64 = val 1 l0 := h0
  have e1 := pop_step 1 32 l0 hl0 (by decide) fun f h => by have := hf0 f h; omega
  have hl1 := prs_length 32 l0 hl0
  have hf1 := prs_le 1 l0 hf0
  have hs1 := prs_sum 32 l0 hl0
  generalize prs l0 = l1 at e1 hl1 hf1 hs1
  have e2 := pop_step 2 16 l1 hl1 (by decide) fun f h => by have := hf1 f h; omega
  have hl2 := prs_length 16 l1 hl1
  have hf2 := prs_le 2 l1 hf1
  have hs2 := prs_sum 16 l1 hl1
  generalize prs l1 = l2 at e2 hl2 hf2 hs2
  have e3 := pop_third 4 8 4 l2 hl2 (by decide) hf2 (by decide)
  have hl3 := prs_length 8 l2 hl2
  have hf3 := prs_le 4 l2 hf2
  have hs3 := prs_sum 8 l2 hl2
  have lt : ∀ (k n : Nat) (l : List Nat), l.length = n → (∀ f ∈ l, f < 2 ^ k) → val k l < 2 ^ (k * n) := by
    intro k n
    induction n with
    | zero => intro l h hf; obtain rfl : l = [] := List.eq_nil_of_length_eq_zero h; exact Nat.two_pow_pos _
    | succ n ih =>
      intro l h hf
      match l, h with
      | a :: r, h =>
        have h1 := ih r (by simpa using h) fun f hr => hf f (by simp [hr])
        have h2 := hf a (by simp)
        simp only [val]
        rw [Nat.mul_succ, Nat.add_comm (k * n), Nat.pow_add]
        have h3 : 2 ^ k * val k r + 2 ^ k ≤ 2 ^ k * 2 ^ (k * n) := by rw [← Nat.mul_succ]; exact Nat.mul_le_mul_left _ h1
        omega
  have m1 : val (2 * 1) (List.replicate 32 (2 ^ 1 - 1)) = 6148914691236517205 := by decide
  have m2 : val (2 * 2) (List.replicate 16 (2 ^ 2 - 1)) = 3689348814741910323 := by decide
  have m3 : val (2 * 4) (List.replicate 8 (2 ^ 4 - 1)) = 1085102592571150095 := by decide
  rw [m1, ← e0] at e1
  rw [m2] at e2
  rw [m3] at e3
  have b1 : val (2 * 1) l1 < 18446744073709551616 := lt 2 32 l1 hl1 fun f h => by have := hf1 f h; omega
  have b3 : val 4 (nxt l2) < 18446744073709551616 := lt 4 16 (nxt l2) (by rw [nxt_length]; exact hl2) fun f h => by have := nxt_le 4 l2 hf2 f h; omega
  refine ⟨prs l2, hl3, hf3, by omega, ?_⟩
  have e1' : (bf p 64 / 2 &&& 6148914691236517205) + (bf p 64 &&& 6148914691236517205) = val 2 l1 := e1
  rw [e1']
  refine ⟨b1, _, rfl, ?_⟩
  have e2' : (val 2 l1 / 4 &&& 3689348814741910323) + (val 2 l1 &&& 3689348814741910323) = val 4 l2 := e2
  rw [e2']
  refine ⟨?_, e3⟩
  match l2, hl2 with
  | a :: r, hl2 =>
    have ha := hf2 a (by simp)
    rw [show (16 : Nat) = 2 ^ 4 by decide, val_shr 4 a r (by omega), val_nxt]
    exact b3
theorem val_lt (k : Nat) : ∀ (n : Nat) (l : List Nat), l.length = n → (∀ f ∈ l, f < 2 ^ k) → val k l < 2 ^ (k * n)
  | 0, l, h, hf => by
    obtain rfl : l = [] := List.eq_nil_of_length_eq_zero h
    exact Nat.two_pow_pos _
  | n + 1, [], h, hf => by simp at h
  | n + 1, a :: r, h, hf => by
    have h1 := val_lt k n r (by simpa using h) fun f hr => hf f (by simp [hr])
    have h2 := hf a (by simp)
    simp only [val]
    rw [Nat.mul_succ, Nat.add_comm (k * n), Nat.pow_add]
    have h3 : 2 ^ k * val k r + 2 ^ k ≤ 2 ^ k * 2 ^ (k * n) := by rw [← Nat.mul_succ]; exact Nat.mul_le_mul_left _ h1
    omega
def vadd : List Nat → List Nat → List Nat
  | a :: r, b :: s => (a + b) :: vadd r s
  | [], s => s
  | r, [] => r
theorem val_vadd (k : Nat) : ∀ l m : List Nat, val k l + val k m = val k (vadd l m)
  | [], m => by simp [val, vadd]
  | a :: r, [] => by simp [val, vadd]
  | a :: r, b :: s => by
    have ih := val_vadd k r s
    simp only [vadd, val, ← ih, Nat.mul_add]
    omega
/-- The eight sums come together. -/
theorem pop_sum (l : List Nat) (hl : l.length = 8) (hf : ∀ f ∈ l, f ≤ 8) : ∃ x1 x2 x3, val 8 l + val 8 l / 256 = x1 ∧ x1 < 18446744073709551616 ∧ x1 + x1 / 65536 = x2 ∧ x2 < 18446744073709551616 ∧ x2 + x2 / 4294967296 = x3 ∧ x3 < 18446744073709551616 ∧ x3 % 128 = l.sum := by
  match l, hl with
  | [a, b, c, d, e, f, g, h], _ =>
    have ha := hf a (by simp)
    have hb := hf b (by simp)
    have hc := hf c (by simp)
    have hd := hf d (by simp)
    have he := hf e (by simp)
    have hg := hf f (by simp)
    have hh := hf g (by simp)
    have hi := hf h (by simp)
    clear hf
    have bound : ∀ m : List Nat, m.length = 8 → (∀ x ∈ m, x < 2 ^ 8) → val 8 m < 18446744073709551616 := fun m h1 h2 => val_lt 8 8 m h1 h2
    have d1 : val 8 [a, b, c, d, e, f, g, h] / 256 = val 8 [b, c, d, e, f, g, h] := val_shr 8 _ _ (by omega)
    have a1 := val_vadd 8 [a, b, c, d, e, f, g, h] [b, c, d, e, f, g, h]
    simp only [vadd] at a1
    have b1 := bound [a + b, b + c, c + d, d + e, e + f, f + g, g + h, h] rfl fun x hx => by simp only [List.mem_cons, List.not_mem_nil, or_false] at hx; omega
    have d2 : val 8 [a + b, b + c, c + d, d + e, e + f, f + g, g + h, h] / 65536 = val 8 [c + d, d + e, e + f, f + g, g + h, h] := by
      rw [show 65536 = 2 ^ 8 * 2 ^ 8 by decide, ← Nat.div_div_eq_div_mul, val_shr 8 _ _ (by omega), val_shr 8 _ _ (by omega)]
    have a2 := val_vadd 8 [a + b, b + c, c + d, d + e, e + f, f + g, g + h, h] [c + d, d + e, e + f, f + g, g + h, h]
    simp only [vadd] at a2
    have b2 := bound [a + b + (c + d), b + c + (d + e), c + d + (e + f), d + e + (f + g), e + f + (g + h), f + g + h, g + h, h] rfl fun x hx => by simp only [List.mem_cons, List.not_mem_nil, or_false] at hx; omega
    have d3 : val 8 [a + b + (c + d), b + c + (d + e), c + d + (e + f), d + e + (f + g), e + f + (g + h), f + g + h, g + h, h] / 4294967296 = val 8 [e + f + (g + h), f + g + h, g + h, h] := by
      rw [show 4294967296 = 2 ^ 8 * 2 ^ 8 * 2 ^ 8 * 2 ^ 8 by decide, ← Nat.div_div_eq_div_mul, ← Nat.div_div_eq_div_mul, ← Nat.div_div_eq_div_mul, val_shr 8 _ _ (by omega), val_shr 8 _ _ (by omega), val_shr 8 _ _ (by omega), val_shr 8 _ _ (by omega)]
    have a3 := val_vadd 8 [a + b + (c + d), b + c + (d + e), c + d + (e + f), d + e + (f + g), e + f + (g + h), f + g + h, g + h, h] [e + f + (g + h), f + g + h, g + h, h]
    simp only [vadd] at a3
    have b3 := bound [a + b + (c + d) + (e + f + (g + h)), b + c + (d + e) + (f + g + h), c + d + (e + f) + (g + h), d + e + (f + g) + h, e + f + (g + h), f + g + h, g + h, h] rfl fun x hx => by simp only [List.mem_cons, List.not_mem_nil, or_false] at hx; omega
    refine ⟨_, _, _, by rw [d1]; exact a1, b1, by rw [d2]; exact a2, b2, by rw [d3]; exact a3, b3, ?_⟩
    have e0 : val 8 [a + b + (c + d) + (e + f + (g + h)), b + c + (d + e) + (f + g + h), c + d + (e + f) + (g + h), d + e + (f + g) + h, e + f + (g + h), f + g + h, g + h, h] = a + b + (c + d) + (e + f + (g + h)) + 256 * val 8 [b + c + (d + e) + (f + g + h), c + d + (e + f) + (g + h), d + e + (f + g) + h, e + f + (g + h), f + g + h, g + h, h] := rfl
    rw [e0]
    generalize val 8 [b + c + (d + e) + (f + g + h), c + d + (e + f) + (g + h), d + e + (f + g) + h, e + f + (g + h), f + g + h, g + h, h] = X
    simp only [List.sum_cons, List.sum_nil]
    clear a1 a2 a3 b1 b2 b3 d1 d2 d3 bound e0
    omega
end Go.Proofs.YtfkagnpdapkaaaaDoor.Bit
/- The scan for the bracket that closes another: byte by byte. -/
namespace Go.Proofs.YtfkagnpdapkaaaaDoor.Err
open Go.RowKit Go.Proofs.YtfkagnpdapkaaaaDoorW.PrintWords Go.Proofs.YtfkagnpdapkaaaaDoorW.PrintLast Go.Proofs.YtfkagnpdapkaaaaDoorW.PrintMore
open Go.Proofs.YtfkagnpdapkaaaaDoor.Dig Go.Proofs.YtfkagnpdapkaaaaDoor.Tab Go.Proofs.YtfkagnpdapkaaaaDoor.QF Go.Proofs.YtfkagnpdapkaaaaDoor.Bit
set_option linter.unusedVariables false
/-- The bytes from a place on. -/
def from_ (L : List Int) (fr : Int) (k : Nat) : Int := rd L (fr + k)
theorem dS_range (g : Nat → Int) : ∀ n : Nat, -(n : Int) ≤ dS g n ∧ dS g n ≤ n
  | 0 => ⟨Int.le_refl _, Int.le_refl _⟩
  | n + 1 => by
    have h := dS_range g n
    have h1 : (oS g n).toNat ≤ 1 := Bool.toNat_le _
    have h2 : (cS g n).toNat ≤ 1 := Bool.toNat_le _
    show -(((n + 1 : Nat)) : Int) ≤ dS g n + (oS g n).toNat - (cS g n).toNat ∧ dS g n + (oS g n).toNat - (cS g n).toNat ≤ ((n + 1 : Nat) : Int)
    omega
/-- A scanner's block: how many brackets are open, whether it is in a text, whether the next byte is escaped. -/
def ScB (w : World) (b : Nat) (d : Int) (i e : Bool) : Prop := w.heap[b]? = some (.cells #[.int .i64 d, .bool i, .bool e] 100 (0, 0))
theorem ScB.cells {w : World} {b : Nat} {d : Int} {i e : Bool} (h : ScB w b d i e) : w.cell? ⟨b, 0, none⟩ = some (.int .i64 d) ∧ w.cell? ⟨b, 1, none⟩ = some (.bool i) ∧ w.cell? ⟨b, 2, none⟩ = some (.bool e) ∧
    w.frozen? ⟨b, 0, none⟩ = false ∧ w.frozen? ⟨b, 1, none⟩ = false ∧ w.frozen? ⟨b, 2, none⟩ = false := by
  unfold ScB at h
  refine ⟨?_, ?_, ?_, ?_, ?_, ?_⟩ <;> simp [World.cell?, World.frozen?, h]
theorem ScB.put {w : World} {b : Nat} {d : Int} {i e : Bool} (h : ScB w b d i e) (d' : Int) (i' e' : Bool) : ScB (((w.setCell ⟨b, 0, none⟩ (.int .i64 d')).setCell ⟨b, 1, none⟩ (.bool i')).setCell ⟨b, 2, none⟩ (.bool e')) b d' i' e' := by
  have h1 := heap_setCell_same w b 0 _ 100 (.int .i64 d') h
  have h2 := heap_setCell_same _ b 1 _ 100 (.bool i') h1
  have h3 := heap_setCell_same _ b 2 _ 100 (.bool e') h2
  unfold ScB
  simpa using h3
/-- What a scan has come to at a place, nothing escaped there; or right behind the limit, where the byte at the limit is escaped. -/
def BP (g : Nat → Int) (fr lim : Int) (n : Nat) (p d : Int) (s : Bool) : Prop :=
  ∃ m : Nat, n ≤ m ∧ p = fr + m ∧ eS g m = false ∧ d = dS g m ∧ s = iS g m ∧ Live g m ∧ (p ≤ lim ∨ (p = lim + 1 ∧ ∃ j : Nat, m = j + 1 ∧ n ≤ j ∧ eS g j = true ∧ dS g j = d ∧ iS g j = s ∧ Live g j))
section
variable {g : Nat → Int} {fr lim p d : Int} {n : Nat} {s : Bool}
theorem BP.step (h : BP g fr lim n p d s) (hp : p < lim) {d' : Int} {s' : Bool} (hs : ∀ m : Nat, p = fr + m → eS g m = false → d = dS g m → s = iS g m → eS g (m + 1) = false ∧ iS g (m + 1) = s' ∧ dS g (m + 1) = d' ∧ (Live g m → Live g (m + 1))) : BP g fr lim n (p + 1) d' s' := by
  obtain ⟨m, h1, h2, h3, h4, h5, h6, h7⟩ := h
  obtain ⟨a, b, c, e⟩ := hs m h2 h3 h4 h5
  exact ⟨m + 1, by omega, by omega, a, c.symm, b.symm, e h6, .inl (by omega)⟩
theorem BP.back (h : BP g fr lim n p d s) (hp : p < lim) (hb : ∀ m : Nat, p = fr + m → g m = 92) : BP g fr lim n (p + 1 + 1) d s := by
  obtain ⟨m, h1, h2, h3, h4, h5, h6, h7⟩ := h
  obtain ⟨a, b, c, e⟩ := back_next h3 (hb m h2)
  obtain ⟨a2, b2, c2, e2⟩ := esc_next a
  refine ⟨m + 1 + 1, by omega, by omega, a2, by rw [h4, c2, c], by rw [h5, b2, b], e2 (e h6), ?_⟩
  by_cases hl : p + 1 + 1 ≤ lim
  · exact .inl hl
  · exact .inr ⟨by omega, m + 1, rfl, by omega, a, by rw [h4, c], by rw [h5, b], e h6⟩
theorem BP.close (h : BP g fr lim n p d false) (hp : p < lim) (hb : ∀ m : Nat, p = fr + m → g m = 125 ∨ g m = 93) : (d - 1 ≠ 0 → BP g fr lim n (p + 1) (d - 1) false) ∧ (d - 1 = 0 → ∃ m, n ≤ m ∧ p = fr + m ∧ ShutAt g m) := by
  obtain ⟨m, h1, h2, h3, h4, h5, h6, h7⟩ := h
  obtain ⟨a, b, c, e⟩ := close_next h3 h5.symm (hb m h2)
  refine ⟨fun hd => ⟨m + 1, by omega, by omega, a, by rw [h4, c], b.symm, h6.next fun _ => by rw [c, ← h4]; exact hd, .inl (by omega)⟩, fun hd => ⟨m, h1, h2, h6, e, by rw [c, ← h4]; exact hd⟩⟩
theorem BP.range (h : BP g fr lim n p d s) (hf : 0 ≤ fr) (hl : lim ≤ 10001) : -10003 ≤ d ∧ d ≤ 10003 := by
  obtain ⟨m, h1, h2, h3, h4, h5, h6, h7⟩ := h
  have := dS_range g m
  rcases h7 with h | ⟨h, _⟩ <;> omega
end
/-- What scanBytes and scan answer. -/
def CompAns (L : List Int) (fr : Int) (b n : Nat) (lim : Int) (w0 : World) (e : Ending) (w' : World) : Prop :=
  Below w0.heap.size w0 w' ∧ ((∃ m : Nat, n ≤ m ∧ fr + m < lim ∧ ShutAt (from_ L fr) m ∧ e = .returned (.tuple #[.int .i64 (fr + m + 1), .bool true])) ∨
    ∃ m : Nat, n ≤ m ∧ (fr + m = lim ∨ (m = n ∧ lim ≤ fr + m)) ∧ Live (from_ L fr) m ∧ ScB w' b (dS (from_ L fr) m) (iS (from_ L fr) m) (eS (from_ L fr) m) ∧ e = .returned (.tuple #[.int .i64 (fr + m), .bool false]))
set_option maxRecDepth 100000 in
set_option maxHeartbeats 8000000 in
theorem scanBytes (ad : Addr) (c : Nat) (L : List Int) (fr : Int) (b n : Nat) (lim : Int) (w0 w : World) (hB : Buf w0 ad c L) (hbw : Below w0.heap.size w0 w) (hb0 : w0.heap.size ≤ b) (hf : 0 ≤ fr) (hn : fr + n ≤ 10001) (hl : lim ≤ L.length) (hlive : Live (from_ L fr) n)
    (hs : ScB w b (dS (from_ L fr) n) (iS (from_ L fr) n) (eS (from_ L fr) n)) :
    Calls Tryd.prog 104 #[.pointer (some ⟨b, 0, none⟩), .slice (some ad) L.length c, .int .i64 (fr + n), .int .i64 lim] w (CompAns L fr b n lim w0) := by
  have hsm := hB.small
  have HB := Aside0.mk hB
  have HBW := Aside0.mk hbw
  have HLV := Aside0.mk hlive
  have HS := Aside0.mk hs
  obtain ⟨c0, c1, c2, f0, f1, f2⟩ := hs.cells
  have hdr := dS_range (from_ L fr) n
  by_cases hlt : fr + n < lim
  rotate_left
  · clear hB hbw hlive hs c0 c1 c2 f0 f1 f2
    go_enter Tryd.func104, Tryd.ntmps104
    go_wp2_with fail
    go_ret2
    exact ⟨HBW.out, .inr ⟨n, Nat.le_refl _, .inr ⟨rfl, by omega⟩, HLV.out, HS.out, rfl⟩⟩
  obtain ⟨d0, hd0⟩ : ∃ d0, d0 = dS (from_ L fr) n := ⟨_, rfl⟩
  obtain ⟨i0, hi0⟩ : ∃ i0, i0 = iS (from_ L fr) n := ⟨_, rfl⟩
  obtain ⟨e0, he0⟩ : ∃ e0, e0 = eS (from_ L fr) n := ⟨_, rfl⟩
  rw [← hd0] at c0 hdr
  rw [← hi0] at c1
  rw [← he0] at c2
  have HE0 := Aside0.mk (And.intro hd0 (And.intro hi0 he0))
  clear hB hbw hlive hs hd0 hi0 he0
  have h20 : wrap64 (fr + n + 1) = fr + n + 1 := by unfold wrap64; omega
  go_enter Tryd.func104, Tryd.ntmps104
  go_wp2_with fail
  go_region
  go_upto_if 30 with (fail)
  go_cut [2] from 31 to 35 (fun v2 wx => ∃ (p : Int), v2 = .int .i64 p ∧ Aside0 (BP (from_ L fr) fr lim n p d0 i0) ∧ Aside0 (Below w0.heap.size w0 wx) ∧ Aside0 (∃ e, ScB wx b d0 i0 e))
  case first =>
    cases e0
    · go_wp2_with fail
      go_meet
      case rel =>
        obtain ⟨hd0, hi0, he0⟩ := HE0.out
        exact ⟨fr + n, rfl, ⟨n, Nat.le_refl _, rfl, he0.symm, hd0, hi0, HLV.out, .inl (by omega)⟩, ⟨HBW.out.drew⟩, ⟨false, by rw [hd0, hi0, he0]; exact HS.out⟩⟩
    · obtain ⟨hd0, hi0, he0⟩ := HE0.out
      obtain ⟨a, b', c', e'⟩ := esc_next he0.symm
      have HP : Aside0 (BP (from_ L fr) fr lim n (fr + n + 1) d0 i0) := ⟨n + 1, by omega, by omega, a, by rw [c', hd0], by rw [b', hi0], e' HLV.out, .inl (by omega)⟩
      have HSS := HS.out
      rw [← hd0, ← hi0, ← he0] at HSS
      have HSS := Aside0.mk HSS
      clear a b' c' e' hd0 hi0 he0
      go_wp2_with fail
      go_meet
      case rel =>
        refine ⟨fr + n + 1, rfl, HP, ⟨(HBW.out.setCell hb0 _).drew⟩, ⟨false, ?_⟩⟩
        have := heap_setCell_same w b 2 _ 100 (.bool false) HSS.out
        exact this
  case rest =>
    obtain ⟨p, rfl, HP, HBX, HSX⟩ := hcut
    clear c0 c1 c2 f0 f1 f2 HE0 HS HBW hdr h20
    go_wp2_with fail
    go_loopg [2, 10, 11] (L.length + 2) (fun kq v2 v10 v11 w' => ∃ (p d : Int) (s : Bool), v2 = .int .i64 p ∧ v10 = .int .i64 d ∧ v11 = .bool s ∧ Aside0 (BP (from_ L fr) fr lim n p d s ∧ lim + 2 ≤ p + kq) ∧ Drawn0 wc w')
    case atStart => exact ⟨p, d0, i0, rfl, rfl, rfl, ⟨HP.out, by obtain ⟨m, _, h, _⟩ := HP.out; omega⟩, Drawn0.refl _⟩
    case round =>
      clear HP
      obtain ⟨p, d, s, rfl, rfl, rfl, HA, ⟨m1, rfl⟩⟩ := hrel
      have hrg := HA.out.1.range hf (by omega)
      have hk := HA.out.2
      have hp0 : fr + n ≤ p := by obtain ⟨m, _, h, _⟩ := HA.out.1; omega
      have hp2 : p ≤ lim + 1 := by obtain ⟨m, _, _, _, _, _, _, h⟩ := HA.out.1; rcases h with h | ⟨h, _⟩ <;> omega
      have hgb : Aside0 (∀ m : Nat, p = fr + m → from_ L fr m = rd L p) := ⟨fun m h => by unfold from_; rw [h]⟩
      have hw1 : wrap64 (p + 1) = p + 1 := by unfold wrap64; omega
      have hw2 : wrap64 (p + 1 + 1) = p + 1 + 1 := by unfold wrap64; omega
      by_cases hpl : p < lim
      · have hx := (HB.out.below HBX.out).at_ p (by omega) (by omega)
        have hxb := HB.out.byte p (by omega) (by omega)
        obtain _ | g0 := gk
        · exfalso; omega
        cases s
        · by_cases b1 : rd L p = 34
          · have HN : Aside0 (BP (from_ L fr) fr lim n (p + 1) d true) := ⟨HA.out.1.step hpl fun m h1 h2 h3 h4 => by
              obtain ⟨a, b, c, e⟩ := quote_next h2 ((hgb.out m h1).trans b1)
              exact ⟨a, by rw [b, ← h4]; rfl, by rw [c, h3], e⟩⟩
            rw [b1] at hx
            clear b1 hxb HA
            go_wp2_with fail
            go_roundg g0
            case measure => omega
            case rel => exact ⟨p + 1, d, true, rfl, rfl, rfl, ⟨HN.out, by omega⟩, by repeat (first | exact Drawn0.refl _ | apply Drawn0.step)⟩
          by_cases b2 : rd L p = 92
          · have HN : Aside0 (BP (from_ L fr) fr lim n (p + 1 + 1) d false) := ⟨HA.out.1.back hpl fun m h => (hgb.out m h).trans b2⟩
            rw [b2] at hx
            clear b1 b2 hxb HA
            go_wp2_with fail
            go_roundg g0
            case measure => omega
            case rel => exact ⟨p + 1 + 1, d, false, rfl, rfl, rfl, ⟨HN.out, by omega⟩, by repeat (first | exact Drawn0.refl _ | apply Drawn0.step)⟩
          have hwd : wrap64 (d + 1) = d + 1 := by unfold wrap64; omega
          have hwe : wrap64 (d - 1) = d - 1 := by unfold wrap64; omega
          by_cases b3 : rd L p = 123 ∨ rd L p = 91
          · have HN : Aside0 (BP (from_ L fr) fr lim n (p + 1) (d + 1) false) := ⟨HA.out.1.step hpl fun m h1 h2 h3 h4 => by
              obtain ⟨a, b, c, e⟩ := open_next h2 h4.symm (by rw [hgb.out m h1]; exact b3)
              exact ⟨a, b, by rw [c, h3], e⟩⟩
            rcases b3 with b3 | b3
            all_goals
              rw [b3] at hx
              clear b1 b2 b3 hxb HA
              go_wp2_with fail
              go_roundg g0
              case measure => omega
              case rel => exact ⟨p + 1, d + 1, false, rfl, rfl, rfl, ⟨HN.out, by omega⟩, by repeat (first | exact Drawn0.refl _ | apply Drawn0.step)⟩
          by_cases b4 : rd L p = 125 ∨ rd L p = 93
          · have HN := Aside0.mk (HA.out.1.close hpl fun m h => by rw [hgb.out m h]; exact b4)
            by_cases hd : d - 1 = 0
            · have HF := Aside0.mk (HN.out.2 hd)
              rcases b4 with b4 | b4
              all_goals
                rw [b4] at hx
                clear b1 b2 b3 b4 hxb HA HN
                go_wp2_with fail
                go_ret2
                obtain ⟨m, h1, h2, h3⟩ := HF.out
                exact ⟨(by repeat (first | exact HBX.out | apply pw_below_drewN)), .inl ⟨m, h1, by omega, h3, by rw [h2]; rfl⟩⟩
            · have HN2 := Aside0.mk (HN.out.1 hd)
              have f1 : (d - 1 == 0) = false := beq_eq_false_iff_ne.mpr hd
              rcases b4 with b4 | b4
              all_goals
                rw [b4] at hx
                clear b1 b2 b3 b4 hxb HA HN hd
                go_wp2_with fail
                go_roundg g0
                case measure => omega
                case rel => exact ⟨p + 1, d - 1, false, rfl, rfl, rfl, ⟨HN2.out, by omega⟩, by repeat (first | exact Drawn0.refl _ | apply Drawn0.step)⟩
          have HN : Aside0 (BP (from_ L fr) fr lim n (p + 1) d false) := ⟨HA.out.1.step hpl fun m h1 h2 h3 h4 => by
            have hg := hgb.out m h1
            obtain ⟨a, b, c, e⟩ := out_next h2 h4.symm (by rw [hg]; exact b1) (by rw [hg]; exact b2) (by rw [hg]; exact fun h => b3 (.inl h)) (by rw [hg]; exact fun h => b3 (.inr h)) (by rw [hg]; exact fun h => b4 (.inl h)) (by rw [hg]; exact fun h => b4 (.inr h))
            exact ⟨a, b, by rw [c, h3], e⟩⟩
          have f1 : (rd L p == 34) = false := beq_eq_false_iff_ne.mpr b1
          have f2 : (rd L p == 92) = false := beq_eq_false_iff_ne.mpr b2
          have f3 : (rd L p == 123) = false := beq_eq_false_iff_ne.mpr fun h => b3 (.inl h)
          have f4 : (rd L p == 91) = false := beq_eq_false_iff_ne.mpr fun h => b3 (.inr h)
          have f5 : (rd L p == 125) = false := beq_eq_false_iff_ne.mpr fun h => b4 (.inl h)
          have f6 : (rd L p == 93) = false := beq_eq_false_iff_ne.mpr fun h => b4 (.inr h)
          clear b1 b2 b3 b4 HA
          go_wp2_with fail
          go_roundg g0
          case measure => omega
          case rel => exact ⟨p + 1, d, false, rfl, rfl, rfl, ⟨HN.out, by omega⟩, by repeat (first | exact Drawn0.refl _ | apply Drawn0.step)⟩
        · go_upto_block 2 with (fail)
          go_cut [2, 11] from 40 to 54 (fun v2 v11 wx => ∃ (p' : Int) (s' : Bool), v2 = .int .i64 p' ∧ v11 = .bool s' ∧ Aside0 (BP (from_ L fr) fr lim n p' d s' ∧ p < p') ∧ Drawn0 wc wx)
          case first =>
            go_wp2_with fail
            go_loopg [2, 11] (L.length + 2) (fun kq v2 v11 w' => ∃ (p' : Int), v2 = .int .i64 p' ∧ v11 = .bool true ∧ Aside0 (BP (from_ L fr) fr lim n p' d true ∧ p ≤ p' ∧ lim + 2 ≤ p' + kq) ∧ Drawn0 wc w')
            case atStart => exact ⟨p, rfl, rfl, ⟨HA.out.1, Int.le_refl _, by omega⟩, by repeat (first | exact Drawn0.refl _ | apply Drawn0.step)⟩
            case round =>
              clear HA hx hxb hk hp0 hgb hw1 hw2 hp2
              obtain ⟨p', rfl, rfl, HI, ⟨m2, rfl⟩⟩ := hrel
              have hk := HI.out.2.2
              have hpp := HI.out.2.1
              have hp0 : fr + n ≤ p' := by obtain ⟨m, _, h, _⟩ := HI.out.1; omega
              have hp2 : p' ≤ lim + 1 := by obtain ⟨m, _, _, _, _, _, _, h⟩ := HI.out.1; rcases h with h | ⟨h, _⟩ <;> omega
              have hw1 : wrap64 (p' + 1) = p' + 1 := by unfold wrap64; omega
              have hw2 : wrap64 (p' + 1 + 1) = p' + 1 + 1 := by unfold wrap64; omega
              have hgb : Aside0 (∀ m : Nat, p' = fr + m → from_ L fr m = rd L p') := ⟨fun m h => by unfold from_; rw [h]⟩
              by_cases hpl2 : p' < lim
              · have hx := (HB.out.below HBX.out).at_ p' (by omega) (by omega)
                have hxb := HB.out.byte p' (by omega) (by omega)
                by_cases b1 : rd L p' = 34
                · have HN : Aside0 (BP (from_ L fr) fr lim n (p' + 1) d false) := ⟨HI.out.1.step hpl2 fun m h1 h2 h3 h4 => by
                    obtain ⟨a, b, c, e⟩ := quote_next h2 ((hgb.out m h1).trans b1)
                    exact ⟨a, by rw [b, ← h4]; rfl, by rw [c, h3], e⟩⟩
                  rw [b1] at hx
                  clear b1 hxb
                  go_wp2_with fail
                  go_meet
                  case rel => exact ⟨p' + 1, false, rfl, rfl, ⟨HN.out, by omega⟩, by repeat (first | exact Drawn0.refl _ | apply Drawn0.step)⟩
                · obtain _ | g1 := gk
                  · exfalso; omega
                  by_cases b2 : rd L p' = 92
                  · have HN : Aside0 (BP (from_ L fr) fr lim n (p' + 1 + 1) d true) := ⟨HI.out.1.back hpl2 fun m h => (hgb.out m h).trans b2⟩
                    rw [b2] at hx
                    clear b1 b2 hxb
                    go_wp2_with fail
                    go_roundg g1
                    case measure => omega
                    case rel => exact ⟨p' + 1 + 1, rfl, rfl, ⟨HN.out, by omega, by omega⟩, by repeat (first | exact Drawn0.refl _ | apply Drawn0.step)⟩
                  · have HN : Aside0 (BP (from_ L fr) fr lim n (p' + 1) d true) := ⟨HI.out.1.step hpl2 fun m h1 h2 h3 h4 => by
                      obtain ⟨a, b, c, e⟩ := text_next h2 h4.symm (by rw [hgb.out m h1]; exact b1) (by rw [hgb.out m h1]; exact b2)
                      exact ⟨a, b, by rw [c, h3], e⟩⟩
                    have f1 : (rd L p' == 34) = false := beq_eq_false_iff_ne.mpr b1
                    have f2 : (rd L p' == 92) = false := beq_eq_false_iff_ne.mpr b2
                    clear b1 b2
                    go_wp2_with fail
                    go_roundg g1
                    case measure => omega
                    case rel => exact ⟨p' + 1, rfl, rfl, ⟨HN.out, by omega, by omega⟩, by repeat (first | exact Drawn0.refl _ | apply Drawn0.step)⟩
              · go_wp2_with fail
                go_meet
                case rel => exact ⟨p', true, rfl, rfl, ⟨HI.out.1, by omega⟩, by repeat (first | exact Drawn0.refl _ | apply Drawn0.step)⟩
          case rest =>
            obtain ⟨p', s', rfl, rfl, HN, ⟨m3, rfl⟩⟩ := hcut
            go_wp2_with fail
            go_roundg g0
            case measure => omega
            case rel => exact ⟨p', d, s', rfl, rfl, rfl, ⟨HN.out.1, by have := HN.out.2; omega⟩, by repeat (first | exact Drawn0.refl _ | apply Drawn0.step)⟩
      · have HFIN : Aside0 (∃ (m : Nat) (e : Bool), n ≤ m ∧ fr + m = lim ∧ Live (from_ L fr) m ∧ d = dS (from_ L fr) m ∧ s = iS (from_ L fr) m ∧ e = eS (from_ L fr) m ∧ ((p = lim ∧ e = false) ∨ (p = lim + 1 ∧ e = true))) := ⟨by
          obtain ⟨m, h1, h2, h3, h4, h5, h6, h7⟩ := HA.out.1
          rcases h7 with h7 | ⟨h7, j, h8, h9, h10, h11, h12, h13⟩
          · exact ⟨m, false, h1, by omega, h6, h4, h5, h3.symm, .inl ⟨by omega, rfl⟩⟩
          · exact ⟨j, true, h9, by omega, h13, h11.symm, h12.symm, h10.symm, .inr ⟨h7, rfl⟩⟩⟩
        obtain ⟨e', HE⟩ := HSX.out
        have HBK : Aside0 (ScB (wc.drewN m1) b d0 i0 e') := ⟨HE⟩
        obtain ⟨c0, c1, c2, f0, f1, f2⟩ := HBK.out.cells
        obtain ⟨m, e, k1, k2, k3, k4, k5, k6, ⟨rfl, rfl⟩ | ⟨rfl, rfl⟩⟩ := HFIN.out
        all_goals
          have HK := Aside0.mk (And.intro k1 (And.intro k2 (And.intro k3 (And.intro k4 (And.intro k5 k6)))))
          clear k1 k2 k3 k4 k5 k6 HFIN HA HE hgb
          go_wp2_with fail
          go_ret2
          obtain ⟨k1, k2, k3, k4, k5, k6⟩ := HK.out
          refine ⟨(((show Below w0.heap.size w0 (wc.drewN m1) by repeat (first | exact HBX.out | apply pw_below_drewN)).setCell hb0 _).setCell hb0 _).setCell hb0 _, .inr ⟨m, k1, .inl k2, k3, ?_, by rw [k2]; rfl⟩⟩
          rw [← k4, ← k5, ← k6]
          exact HBK.out.put _ _ _
end Go.Proofs.YtfkagnpdapkaaaaDoor.Err
/- The reference's CompoundEnd: what it tells, where no backslash stands outside of texts. -/
namespace Go.Proofs.YtfkagnpdapkaaaaDoor.Err
open Go.RowKit Go.Proofs.YtfkagnpdapkaaaaDoorW.PrintWords Go.Proofs.YtfkagnpdapkaaaaDoorW.PrintLast Go.Proofs.YtfkagnpdapkaaaaDoorW.PrintMore
open Go.Proofs.YtfkagnpdapkaaaaDoor.Dig Go.Proofs.YtfkagnpdapkaaaaDoor.Tab Go.Proofs.YtfkagnpdapkaaaaDoor.QF Go.Proofs.YtfkagnpdapkaaaaDoor.Bit Go.Proofs.YtfkagnpdapkaaaaDoor.QE
set_option linter.unusedVariables false
/-- What the reference tells: the place behind the bracket that closes the first one, or that there is none. -/
def CompSaid (l : List Int) (fr : Nat) (r : Int × Bool × Bool) : Prop := r.2.2 = true →
  (r.2.1 = true → ∃ n : Nat, ShutAt (from_ (l ++ [0]) fr) n ∧ fr + n < l.length ∧ r.1 = fr + n + 1) ∧ (r.2.1 = false → ∃ n : Nat, Live (from_ (l ++ [0]) fr) n ∧ l.length ≤ fr + n)
theorem comp_spec (l : List Int) (fr : Nat) (hl : l.length ≤ 10000) : ∀ m n : Nat, l.length + 2 - (fr + n) ≤ m → fr + n ≤ l.length + 1 → eS (from_ (l ++ [0]) fr) n = false → Live (from_ (l ++ [0]) fr) n →
    ∃ k r, spec_CompoundEnd.l0 k l (dS (from_ (l ++ [0]) fr) n) (iS (from_ (l ++ [0]) fr) n) ((fr : Int) + n) = some r ∧ CompSaid l fr r := by
  intro m
  induction m with
  | zero => intro n h1 h2; omega
  | succ m ih =>
    intro n h1 h2 he hv
    by_cases hlt : ((fr : Int) + n) < l.length
    rotate_left
    · exact ⟨1, (0, false, true), by simp [spec_CompoundEnd.l0, hlt], fun _ => ⟨fun h => (by cases h), fun _ => ⟨n, hv, by omega⟩⟩⟩
    have h0 : 0 ≤ (fr : Int) + n := by omega
    have hg : rd l ((fr : Int) + n) = from_ (l ++ [0]) fr n := by
      unfold from_
      rw [show (fr : Int) + n = ((fr + n : Nat) : Int) by omega]
      exact (rd_app l [0] (fr + n) (by omega)).symm
    have hdr := dS_range (from_ (l ++ [0]) fr) n
    have hw1 : wrap64 ((fr : Int) + n + 1) = (fr : Int) + n + 1 := by unfold wrap64; omega
    have hw2 : wrap64 ((fr : Int) + n + 1 + 1) = (fr : Int) + n + 1 + 1 := by unfold wrap64; omega
    have hwd : wrap64 (dS (from_ (l ++ [0]) fr) n + 1) = dS (from_ (l ++ [0]) fr) n + 1 := by unfold wrap64; omega
    have hwe : wrap64 (dS (from_ (l ++ [0]) fr) n - 1) = dS (from_ (l ++ [0]) fr) n - 1 := by unfold wrap64; omega
    have e1 : ((fr : Int) + (n + 1 : Nat)) = (fr : Int) + n + 1 := by omega
    have e2 : ((fr : Int) + (n + 1 + 1 : Nat)) = (fr : Int) + n + 1 + 1 := by omega
    have w0 : wrap64 0 = 0 := by unfold wrap64; omega
    generalize hG : from_ (l ++ [0]) fr = g at *
    by_cases b1 : g n = 34
    · obtain ⟨a, b, c, e⟩ := quote_next he b1
      obtain ⟨k, r, hk, hr⟩ := ih (n + 1) (by omega) (by omega) a (e hv)
      rw [b, c, e1] at hk
      refine ⟨k + 2, r, ?_, hr⟩
      cases hi : iS g n
      · rw [hi] at hk
        simp [spec_CompoundEnd.l0, spec_CompoundEnd.j1, hlt, h0, hg, b1, hw1] at hk ⊢
        exact hk
      · rw [hi] at hk
        simp [spec_CompoundEnd.l0, spec_CompoundEnd.j1, hlt, h0, hg, b1, hw1] at hk ⊢
        exact hk
    by_cases b2 : g n = 92
    · obtain ⟨a, b, c, e⟩ := back_next he b2
      cases hi : iS g n
      · exact ⟨2, (0, false, false), by simp [spec_CompoundEnd.l0, spec_CompoundEnd.j1, hlt, h0, hg, b2], fun h => (by cases h)⟩
      · obtain ⟨a2, c2, d2, f2⟩ := esc_next a
        obtain ⟨k, r, hk, hr⟩ := ih (n + 1 + 1) (by omega) (by omega) a2 (f2 (e hv))
        rw [c2, d2, b, c, hi, e2] at hk
        refine ⟨k + 2, r, ?_, hr⟩
        simp [spec_CompoundEnd.l0, spec_CompoundEnd.j1, hlt, h0, hg, b2, hw1, hw2]
        exact hk
    cases hi : iS g n
    rotate_left
    · obtain ⟨a, b, c, e⟩ := text_next he hi b1 b2
      obtain ⟨k, r, hk, hr⟩ := ih (n + 1) (by omega) (by omega) a (e hv)
      rw [b, c, e1] at hk
      refine ⟨k + 2, r, ?_, hr⟩
      simp [spec_CompoundEnd.l0, spec_CompoundEnd.j1, hlt, h0, hg, b1, b2, hw1]
      exact hk
    by_cases b3 : g n = 123 ∨ g n = 91
    · obtain ⟨a, b, c, e⟩ := open_next he hi b3
      obtain ⟨k, r, hk, hr⟩ := ih (n + 1) (by omega) (by omega) a (e hv)
      rw [b, c, e1] at hk
      refine ⟨k + 3, r, ?_, hr⟩
      rcases b3 with b3 | b3
      · simp [spec_CompoundEnd.l0, spec_CompoundEnd.j1, spec_CompoundEnd.j2, hlt, h0, hg, b3, hw1, hwd]
        exact hk
      · simp [spec_CompoundEnd.l0, spec_CompoundEnd.j1, spec_CompoundEnd.j2, hlt, h0, hg, b3, hw1, hwd]
        exact hk
    by_cases b4 : g n = 125 ∨ g n = 93
    · obtain ⟨a, b, c, e⟩ := close_next he hi b4
      by_cases hd : dS g n - 1 = 0
      · refine ⟨4, ((fr : Int) + n + 1, true, true), ?_, fun _ => ⟨fun _ => ⟨n, by rw [hG]; exact ⟨hv, e, by rw [c]; exact hd⟩, by omega, rfl⟩, fun h => (by cases h)⟩⟩
        rcases b4 with b4 | b4
        · simp [spec_CompoundEnd.l0, spec_CompoundEnd.j1, spec_CompoundEnd.j2, spec_CompoundEnd.j3, hlt, h0, hg, b4, hw1, hd, w0]
        · simp [spec_CompoundEnd.l0, spec_CompoundEnd.j1, spec_CompoundEnd.j2, spec_CompoundEnd.j3, hlt, h0, hg, b4, hw1, hd, w0]
      · obtain ⟨k, r, hk, hr⟩ := ih (n + 1) (by omega) (by omega) a (hv.next fun _ => by rw [c]; exact hd)
        rw [b, c, e1] at hk
        refine ⟨k + 4, r, ?_, hr⟩
        rcases b4 with b4 | b4
        · simp [spec_CompoundEnd.l0, spec_CompoundEnd.j1, spec_CompoundEnd.j2, spec_CompoundEnd.j3, hlt, h0, hg, b4, hw1, hwe, hd]
          exact hk
        · simp [spec_CompoundEnd.l0, spec_CompoundEnd.j1, spec_CompoundEnd.j2, spec_CompoundEnd.j3, hlt, h0, hg, b4, hw1, hwe, hd]
          exact hk
    · have n3 : g n ≠ 123 := fun h => b3 (.inl h)
      have n4 : g n ≠ 91 := fun h => b3 (.inr h)
      have n5 : g n ≠ 125 := fun h => b4 (.inl h)
      have n6 : g n ≠ 93 := fun h => b4 (.inr h)
      obtain ⟨a, b, c, e⟩ := out_next he hi b1 b2 n3 n4 n5 n6
      obtain ⟨k, r, hk, hr⟩ := ih (n + 1) (by omega) (by omega) a (e hv)
      rw [b, c, e1] at hk
      refine ⟨k + 4, r, ?_, hr⟩
      simp [spec_CompoundEnd.l0, spec_CompoundEnd.j1, spec_CompoundEnd.j2, spec_CompoundEnd.j3, hlt, h0, hg, b1, b2, n3, n4, n5, n6, hw1]
      exact hk
/-- The reference's answer at a bracket. -/
theorem comp_said (A : Option Addr) (c : Nat) (l : List Int) (fr : Nat) (hcap : l.length ≤ c) (hl : l.length ≤ 10000) (hfr : fr < l.length) :
    ∃ r, CompSaid l fr r ∧ ∀ w', Kd.C (Kd.int .u8) w' A l.length l → Calls Tryd.prog 26 #[.slice A l.length c, .int .i64 fr] w' fun e w'' => e = .returned (.tuple #[.int .i64 r.1, .bool r.2.1, .bool r.2.2]) ∧ Drawn0 w' w'' := by
  obtain ⟨k, r, hk, hr⟩ := comp_spec l fr hl (l.length + 2) 0 (by omega) (by omega) rfl (Live.zero _)
  obtain ⟨r1, r2, r3⟩ := r
  refine ⟨(r1, r2, r3), hr, fun w' h => spec_CompoundEnd.calls k A c l fr r1 r2 r3 w' h hcap ?_⟩
  unfold spec_CompoundEnd.f
  have e : ((fr : Int) + (0 : Nat)) = fr := by omega
  rw [e] at hk
  exact hk
end Go.Proofs.YtfkagnpdapkaaaaDoor.Err
/- The places of a byte among 64 as bits: masks of words, what they are; plain lemmas over numbers, and the functions that make them. -/
namespace Go.Proofs.YtfkagnpdapkaaaaDoor.Key
open Go.RowKit Go.Proofs.YtfkagnpdapkaaaaDoor.QG Go.Proofs.YtfkagnpdapkaaaaDoorW.PrintWords Go.Proofs.YtfkagnpdapkaaaaDoorW.PrintLast Go.Proofs.YtfkagnpdapkaaaaDoorW.PrintMore Go.Proofs.YtfkagnpdapkaaaaDoor.Swar Go.Proofs.YtfkagnpdapkaaaaDoor.Dig Go.Proofs.YtfkagnpdapkaaaaDoor.Tab Go.Proofs.YtfkagnpdapkaaaaDoor.Err
set_option linter.unusedVariables false
/-- The bits of a list of tests, the first one the lowest. -/
def bitsOf : List Bool → Nat
  | [] => 0
  | b :: r => b.toNat + 2 * bitsOf r
theorem bitsOf_append (a c : List Bool) : bitsOf (a ++ c) = bitsOf a + 2 ^ a.length * bitsOf c := by
  induction a with
  | nil => simp [bitsOf]
  | cons b r ih => simp only [List.cons_append, bitsOf, List.length_cons, Nat.pow_succ, ih]; grind
theorem bitsOf_lt (l : List Bool) : bitsOf l < 2 ^ l.length := by
  induction l with
  | nil => simp [bitsOf]
  | cons b r ih =>
    have : b.toNat ≤ 1 := Bool.toNat_le b
    simp only [bitsOf, List.length_cons, Nat.pow_succ]
    omega
/-- A byte's part of a mask. -/
def lane (p : Nat → Bool) (b : Nat) : Nat := 128 * (p b).toNat
theorem lane_bf (p : Nat → Bool) : Bf (lane p) := fun b _ => by
  have : (p b).toNat ≤ 1 := Bool.toNat_le _
  unfold lane
  omega
theorem gather_bool : ∀ b0 b1 b2 b3 b4 b5 b6 b7 : Bool, hw [128 * b0.toNat, 128 * b1.toNat, 128 * b2.toNat, 128 * b3.toNat, 128 * b4.toNat, 128 * b5.toNat, 128 * b6.toNat, 128 * b7.toNat] / 128 * 72624976668147840 % 18446744073709551616 / 72057594037927936 = bitsOf [b0, b1, b2, b3, b4, b5, b6, b7] := by decide +kernel
theorem gather_lane (p : Nat → Bool) (l : List Nat) (hl : l.length = 8) : gojson_gatherMask.f ((hw (l.map (lane p)) : Nat) : Int) = some ((bitsOf (l.map p) : Nat) : Int) := by
  match l, hl with
  | [b0, b1, b2, b3, b4, b5, b6, b7], _ =>
    have h := gather_bool (p b0) (p b1) (p b2) (p b3) (p b4) (p b5) (p b6) (p b7)
    simp only [List.map]
    rw [← h]
    unfold gojson_gatherMask.f lane
    rw [IntKind.wrap_u64]
    simp
theorem lane_fin : ∀ b : Fin 256, ∀ c, c = 34 ∨ c = 92 ∨ c = 91 ∨ c = 93 → (255 ^^^ (((b.1 ^^^ c) &&& 127) + 127 ||| (b.1 ^^^ c))) &&& 128 = 128 * (b.1 == c).toNat := by
  intro b c hc
  rcases hc with rfl | rfl | rfl | rfl
  · revert b; decide +kernel
  · revert b; decide +kernel
  · revert b; decide +kernel
  · revert b; decide +kernel
theorem lane_word (l : List Nat) (hl : l.length = 8) (h : Bs l) (c : Nat) (hc : c = 34 ∨ c = 92 ∨ c = 91 ∨ c = 93) :
    Go.bits .and .u64 (Go.bits .xor .u64 IntKind.u64.max (Go.bits .or .u64 (IntKind.u64.wrap (Go.bits .and .u64 (Go.bits .xor .u64 ((hw l : Nat) : Int) (IntKind.u64.wrap ((c : Int) * 72340172838076673))) 9187201950435737471 + 9187201950435737471)) (Go.bits .xor .u64 ((hw l : Nat) : Int) (IntKind.u64.wrap ((c : Int) * 72340172838076673))))) 9259542123273814144
      = ((hw (l.map (lane (· == c))) : Nat) : Int) := by
  have hc8 : c < 128 := by omega
  have bid : Bf fun b => b := fun b hb => hb
  have bc (n : Nat) (hn : n < 256) : Bf fun _ => n := fun _ _ => hn
  have bx : Bf fun b => b ^^^ c := fun b hb => Nat.xor_lt_two_pow (n := 8) hb (by omega)
  have ba : Bf fun b => (b ^^^ c) &&& 127 := fun b hb => Nat.lt_of_le_of_lt Nat.and_le_right (by decide)
  have bp : Bf fun b => ((b ^^^ c) &&& 127) + 127 := fun b hb => by have : (b ^^^ c) &&& 127 ≤ 127 := Nat.and_le_right; show ((b ^^^ c) &&& 127) + 127 < 256; omega
  have bo : Bf fun b => ((b ^^^ c) &&& 127) + 127 ||| (b ^^^ c) := fun b hb => Nat.or_lt_two_pow (n := 8) (bp b hb) (bx b hb)
  have bn : Bf fun b => 255 ^^^ (((b ^^^ c) &&& 127) + 127 ||| (b ^^^ c)) := fun b hb => Nat.xor_lt_two_pow (n := 8) (by decide) (bo b hb)
  have e0 : hw l = hw (l.map fun b => b) := by rw [List.map_id' l]
  have e1 : IntKind.u64.wrap ((c : Int) * 72340172838076673) = ((hw (l.map fun _ => c) : Nat) : Int) := by
    rw [w_const l hl, IntKind.wrap_u64]
    simp only [List.replicate, hw]
    omega
  have e2 : (9187201950435737471 : Int) = ((hw (l.map fun _ => 127) : Nat) : Int) := by rw [w_const l hl]; decide
  have e3 : (9259542123273814144 : Int) = ((hw (l.map fun _ => 128) : Nat) : Int) := by rw [w_const l hl]; decide
  have e4 : IntKind.u64.max = ((hw (l.map fun _ => 255) : Nat) : Int) := by rw [w_const l hl]; decide
  rw [e0, e1, w_xor l hl h _ _ bid (bc c (by omega)), e2, w_and l hl h _ _ bx (bc 127 (by decide)), w_add l hl h _ _ bp, w_or l hl h _ _ bp bx, e4, w_xor l hl h _ _ (bc 255 (by decide)) bo, e3, w_and l hl h _ _ bn (bc 128 (by decide))]
  congr 1
  refine hw_map_congr l _ _ (fun b hb => ?_) h
  have := lane_fin ⟨b, hb⟩ c hc
  unfold lane
  exact this
set_option maxHeartbeats 4000000 in
theorem byteMask (l : List Nat) (hl : l.length = 8) (h : Bs l) (c : Nat) (hc : c = 34 ∨ c = 92 ∨ c = 91 ∨ c = 93) (W : World) : Calls Tryd.prog 103 #[.int .u64 ((hw l : Nat) : Int), .int .u64 (c : Int)] W fun e w' => e = .returned (.int .u64 ((hw (l.map (lane (· == c))) : Nat) : Int)) ∧ Drawn0 W w' := by
  have HR := Aside0.mk (lane_word l hl h c hc)
  generalize hw (l.map (lane (· == c))) = R at *
  clear h hc hl
  have hs : IntKind.u64.signed = false := rfl
  generalize hw l = w at *
  go_enter Tryd.func103, Tryd.ntmps103
  go_wp2
  go_ret
  exact ⟨by rw [HR.out]; rfl, Drawn0.refl _⟩
set_option maxHeartbeats 4000000 in
theorem gather (p : Nat → Bool) (l : List Nat) (hl : l.length = 8) (W : World) : Calls Tryd.prog 102 #[.int .u64 ((hw (l.map (lane p)) : Nat) : Int)] W fun e w' => e = .returned (.int .u64 ((bitsOf (l.map p) : Nat) : Int)) ∧ Drawn0 W w' :=
  gojson_gatherMask.calls _ _ W (gather_lane p l hl)
/-- The byte without its sixth bit. -/
theorem fold_word (l : List Nat) (hl : l.length = 8) (h : Bs l) : Go.bits .andNot .u64 ((hw l : Nat) : Int) 2314885530818453536 = ((hw (l.map (· &&& 223)) : Nat) : Int) := by
  have e0 : hw l = hw (l.map fun b => b) := by rw [List.map_id' l]
  have e3 : (2314885530818453536 : Int) = ((hw (l.map fun _ => 32) : Nat) : Int) := by rw [w_const l hl]; decide
  rw [e0, e3, w_andNot l hl h _ _ (fun b hb => hb) (fun _ _ => by decide)]
/-- What a block's word adds to the bits of those ahead of it. -/
theorem bits_step (a b : List Bool) (k : Nat) (hk : k < 8) (ha : a.length = 8 * k) (hb : b.length = 8) :
    Go.bits .or .u64 ((bitsOf a : Nat) : Int) (shl .u64 ((bitsOf b : Nat) : Int) (8 * (k : Int))) = ((bitsOf (a ++ b) : Nat) : Int) := by
  have h1 := bitsOf_lt a
  have h2 := bitsOf_lt b
  have h3 : (2 : Nat) ^ (8 * k) = 256 ^ k := by rw [Nat.pow_mul]
  have hp : 256 ^ k ≤ 72057594037927936 := Nat.le_trans (Nat.pow_le_pow_right (by decide) (show k ≤ 7 by omega)) (by decide)
  rw [ha, h3] at h1
  rw [hb] at h2
  have hm : bitsOf b * 256 ^ k ≤ 255 * 72057594037927936 := Nat.mul_le_mul (by omega) hp
  have e1 : min (8 * (k : Int)).toNat IntKind.u64.bits = 8 * k := by simp [IntKind.bits]; omega
  have es : shl .u64 ((bitsOf b : Nat) : Int) (8 * (k : Int)) = ((bitsOf b * 256 ^ k : Nat) : Int) := by
    unfold shl
    rw [e1, IntKind.wrap_u64]
    have : ((2 : Int) ^ (8 * k)) = ((256 ^ k : Nat) : Int) := by rw [← h3]; simp
    rw [this]
    omega
  rw [es, or_place _ _ k hk h1 h2, bitsOf_append, ha, h3]
end Go.Proofs.YtfkagnpdapkaaaaDoor.Key
/- The masks of a block of 64 bytes: what scanBlockWords puts into its struct. -/
namespace Go.Proofs.YtfkagnpdapkaaaaDoor.Err
open Go.RowKit Go.Proofs.YtfkagnpdapkaaaaDoorW.PrintWords Go.Proofs.YtfkagnpdapkaaaaDoorW.PrintLast Go.Proofs.YtfkagnpdapkaaaaDoorW.PrintMore Go.Proofs.YtfkagnpdapkaaaaDoor.QF
open Go.Proofs.YtfkagnpdapkaaaaDoor.Dig Go.Proofs.YtfkagnpdapkaaaaDoor.Tab Go.Proofs.YtfkagnpdapkaaaaDoor.Swar Go.Proofs.YtfkagnpdapkaaaaDoor.Key
set_option linter.unusedVariables false
def pQ (b : Nat) : Bool := b == 34
def pB (b : Nat) : Bool := b == 92
def pO (b : Nat) : Bool := (b &&& 223) == 91
def pC (b : Nat) : Bool := (b &&& 223) == 93
/-- The bits of the first n bytes that pass a test. -/
def upto (l : List Int) (p : Nat → Bool) (n : Nat) : Nat := bitsOf ((nb l n 0).map p)
theorem nb_add (l : List Int) : ∀ m n i, nb l (m + n) i = nb l m i ++ nb l n (i + m) := by
  intro m
  induction m with
  | zero => intro n i; simp [nb]
  | succ m ih =>
    intro n i
    rw [show m + 1 + n = (m + n) + 1 by omega]
    simp only [nb, ih, List.cons_append]
    rw [show i + 1 + m = i + (m + 1) by omega]
theorem upto_step (l : List Int) (p : Nat → Bool) (k : Nat) (hk : k < 8) :
    Go.bits .or .u64 ((upto l p (8 * k) : Nat) : Int) (shl .u64 ((bitsOf ((nb l 8 (8 * k)).map p) : Nat) : Int) (8 * (k : Int))) = ((upto l p (8 * (k + 1)) : Nat) : Int) := by
  unfold upto
  rw [bits_step _ _ k hk (by rw [List.length_map, nb_length]) (by rw [List.length_map, nb_length]), ← List.map_append, Nat.mul_add, Nat.mul_one, nb_add, Nat.zero_add]
theorem four' {w : World} {b : Nat} {v0 v1 v2 v3 : Value} {t : TypeId} (h : w.heap[b]? = some (.cells #[v0, v1, v2, v3] t (0, 0))) :
    w.cell? ⟨b, 0, none⟩ = some v0 ∧ w.cell? ⟨b, 1, none⟩ = some v1 ∧ w.cell? ⟨b, 2, none⟩ = some v2 ∧ w.cell? ⟨b, 3, none⟩ = some v3 ∧
    w.frozen? ⟨b, 0, none⟩ = false ∧ w.frozen? ⟨b, 1, none⟩ = false ∧ w.frozen? ⟨b, 2, none⟩ = false ∧ w.frozen? ⟨b, 3, none⟩ = false := by
  refine ⟨?_, ?_, ?_, ?_, ?_, ?_, ?_, ?_⟩ <;> simp [World.cell?, World.frozen?, h]
/-- One call of byteMask and one of gatherMask, told with a number. -/
abbrev MaskC (w c m : Int) : Prop := ∀ W, Calls Tryd.prog 103 #[.int .u64 w, .int .u64 c] W fun e w' => e = .returned (.int .u64 m) ∧ Drawn0 W w'
abbrev GathC (m g : Int) : Prop := ∀ W, Calls Tryd.prog 102 #[.int .u64 m] W fun e w' => e = .returned (.int .u64 g) ∧ Drawn0 W w'
theorem and_bs {l : List Nat} (h : Bs l) : Bs (l.map (· &&& 223)) := fun x hx => by
  obtain ⟨b, hb, rfl⟩ := List.mem_map.1 hx
  exact Nat.lt_of_le_of_lt Nat.and_le_left (h b hb)
theorem word_round (l : List Int) (hb : Bytes l) (h64 : 64 ≤ l.length) (i : Nat) (hi : i < 8) : ∃ W0 F0 M1 M2 M3 M4 B1 B2 B3 B4 : Int, gojson_le64.f (l.drop (8 * i)) = some W0 ∧ Go.bits .andNot .u64 W0 2314885530818453536 = F0 ∧
    MaskC W0 34 M1 ∧ GathC M1 B1 ∧ MaskC W0 92 M2 ∧ GathC M2 B2 ∧ MaskC F0 91 M3 ∧ GathC M3 B3 ∧ MaskC F0 93 M4 ∧ GathC M4 B4 ∧
    Go.bits .or .u64 ((upto l pQ (8 * i) : Nat) : Int) (shl .u64 B1 (8 * (i : Int))) = ((upto l pQ (8 * (i + 1)) : Nat) : Int) ∧ Go.bits .or .u64 ((upto l pB (8 * i) : Nat) : Int) (shl .u64 B2 (8 * (i : Int))) = ((upto l pB (8 * (i + 1)) : Nat) : Int) ∧
    Go.bits .or .u64 ((upto l pO (8 * i) : Nat) : Int) (shl .u64 B3 (8 * (i : Int))) = ((upto l pO (8 * (i + 1)) : Nat) : Int) ∧ Go.bits .or .u64 ((upto l pC (8 * i) : Nat) : Int) (shl .u64 B4 (8 * (i : Int))) = ((upto l pC (8 * (i + 1)) : Nat) : Int) := by
  have hl := nb_length l 8 (8 * i)
  have hs := nb_bs l hb 8 (8 * i)
  have hl2 : ((nb l 8 (8 * i)).map (· &&& 223)).length = 8 := by rw [List.length_map, hl]
  have hs2 := and_bs hs
  refine ⟨_, _, _, _, _, _, _, _, _, _, le64_f l hb (8 * i) (by omega), fold_word _ hl hs, fun W => Key.byteMask _ hl hs 34 (by decide) W, fun W => Key.gather _ _ hl W, fun W => Key.byteMask _ hl hs 92 (by decide) W, fun W => Key.gather _ _ hl W,
    fun W => Key.byteMask _ hl2 hs2 91 (by decide) W, fun W => Key.gather _ _ hl2 W, fun W => Key.byteMask _ hl2 hs2 93 (by decide) W, fun W => Key.gather _ _ hl2 W, upto_step l pQ i hi, upto_step l pB i hi, ?_, ?_⟩
  · rw [List.map_map]
    exact upto_step l pO i hi
  · rw [List.map_map]
    exact upto_step l pC i hi
set_option maxRecDepth 100000 in
set_option maxHeartbeats 8000000 in
theorem blockWords (A : Option Addr) (c : Nat) (l : List Int) (b : Nat) (v0 v1 v2 v3 : Value) (w : World) (hC : Kd.C (Kd.int .u8) w A l.length l) (hcap : l.length ≤ c) (hb : Bytes l) (h64 : 64 ≤ l.length)
    (hblk : w.heap[b]? = some (.cells #[v0, v1, v2, v3] 95 (0, 0))) :
    Calls Tryd.prog 81 #[.slice A l.length c, .pointer (some ⟨b, 0, none⟩)] w fun e w' => e = .returned (.tuple #[]) ∧ w'.heap[b]? = some (.cells #[.int .u64 (upto l pQ 64 : Nat), .int .u64 (upto l pB 64 : Nat), .int .u64 (upto l pO 64 : Nat), .int .u64 (upto l pC 64 : Nat)] 95 (0, 0)) ∧ ∀ n, n ≤ b → Below n w w' := by
  have HC := Aside0.mk hC
  have HCAP := Aside0.mk hcap
  have HB := Aside0.mk hb
  have HK := Aside0.mk hblk
  clear hC hcap hb hblk
  go_enter Tryd.func81, Tryd.ntmps81
  go_wp2_with fail
  go_loopg [4, 5, 6, 7, 8] 8 (fun kq v4 v5 v6 v7 v8 w' => ∃ (m4 m5 m6 m7 y : Int), v4 = .int .u64 m4 ∧ v5 = .int .u64 m5 ∧ v6 = .int .u64 m6 ∧ v7 = .int .u64 m7 ∧ v8 = .int .i64 y ∧
    Aside0 (∃ i : Nat, i + kq = 8 ∧ y = i ∧ m4 = upto l pQ (8 * i) ∧ m5 = upto l pB (8 * i) ∧ m6 = upto l pO (8 * i) ∧ m7 = upto l pC (8 * i)) ∧ Drawn0 w w')
  case atStart => exact ⟨0, 0, 0, 0, 0, rfl, rfl, rfl, rfl, rfl, ⟨0, rfl, rfl, rfl, rfl, rfl, rfl⟩, Drawn0.refl _⟩
  case round =>
    obtain ⟨m4, m5, m6, m7, y, rfl, rfl, rfl, rfl, rfl, HA, ⟨nd0, rfl⟩⟩ := hrel
    by_cases hy : y < 8
    · have hy0 : 0 ≤ y := by obtain ⟨i, h1, h2, _⟩ := HA.out; omega
      obtain ⟨i06, hi06, _, hsz6, _⟩ := info_parts (P := Tryd.prog) QF.info5
      have hz : IntKind.i64.wrap (y * 8) = y * 8 := IntWalk.i64_in _ (by omega)
      obtain ⟨A6, hcut6, hA6, hC6⟩ := print_drop_of (P := Tryd.prog) (Value.int .u8) 0 22 5 .i64 Tryd.underlying22 hi06 hsz6 A c l (y * 8) (by omega) (by omega) HCAP.out
      have HR := Aside0.mk (Kd.C_of_reads (h1 := fun _ => rfl) (hA6 _ (Kd.reads_of_C HC.out)))
      obtain _ | g0 := gk
      · exfalso; obtain ⟨i, h1, h2, _⟩ := HA.out; omega
      obtain ⟨W0, F0, M1, M2, M3, M4, B1, B2, B3, B4, n1, n2, n3, n4, n5, z1, z2, z3, z4, z5, z6, z7, z8, s1, s2, s3, s4⟩ : ∃ W0 F0 M1 M2 M3 M4 B1 B2 B3 B4 n1 n2 n3 n4 n5 : Int, gojson_le64.f (l.drop (y * 8).toNat) = some W0 ∧ Go.bits .andNot .u64 W0 2314885530818453536 = F0 ∧
          Aside0 (MaskC W0 34 M1 ∧ GathC M1 B1) ∧ Aside0 (MaskC W0 92 M2 ∧ GathC M2 B2) ∧ Aside0 (MaskC F0 91 M3 ∧ GathC M3 B3) ∧ Aside0 (MaskC F0 93 M4 ∧ GathC M4 B4) ∧ IntKind.u64.wrap (y * 8) = y * 8 ∧
          Aside0 (∃ i : Nat, i + g0 = 8 ∧ y + 1 = i ∧ n1 = upto l pQ (8 * i) ∧ n2 = upto l pB (8 * i) ∧ n3 = upto l pO (8 * i) ∧ n4 = upto l pC (8 * i)) ∧
          Go.bits .or .u64 m4 (IntKind.u64.wrap (B1 * 2 ^ (y * 8).toNat)) = n1 ∧ Go.bits .or .u64 m5 (IntKind.u64.wrap (B2 * 2 ^ (y * 8).toNat)) = n2 ∧ Go.bits .or .u64 m6 (IntKind.u64.wrap (B3 * 2 ^ (y * 8).toNat)) = n3 ∧ Go.bits .or .u64 m7 (IntKind.u64.wrap (B4 * 2 ^ (y * 8).toNat)) = n4 := by
        obtain ⟨i, h1, rfl, rfl, rfl, rfl, rfl⟩ := HA.out
        obtain ⟨W0, F0, M1, M2, M3, M4, B1, B2, B3, B4, e1, e2, e3, e4, e5, e6, e7, e8, e9, e10, e11, e12, e13, e14⟩ := word_round l HB.out h64 i (by omega)
        have e0 : ((i : Int) * 8).toNat = 8 * i := by omega
        have e15 : (i : Int) * 8 = 8 * (i : Int) := by omega
        have e16 : ∀ x : Int, shl .u64 x (8 * (i : Int)) = IntKind.u64.wrap (x * 2 ^ (8 * i)) := fun x => by
          have : min (8 * (i : Int)).toNat IntKind.u64.bits = 8 * i := by simp [IntKind.bits]; omega
          unfold shl
          rw [this]
        rw [e16] at e11 e12 e13 e14
        rw [e0, e15]
        exact ⟨W0, F0, M1, M2, M3, M4, B1, B2, B3, B4, _, _, _, _, 0, e1, e2, ⟨e3, e4⟩, ⟨e5, e6⟩, ⟨e7, e8⟩, ⟨e9, e10⟩, by rw [IntKind.wrap_u64]; omega, ⟨i + 1, by omega, by omega, rfl, rfl, rfl, rfl⟩, e11, e12, e13, e14⟩
      have HLE : Aside0 (∀ m, Calls Tryd.prog 101 #[.slice A6 (l.length - (y * 8).toNat) (c - (y * 8).toNat)] (w.drewN m) fun e w' => e = .returned (.int .u64 W0) ∧ Drawn0 (w.drewN m) w') := ⟨fun m => by
        have := gojson_le64.calls A6 (c - (y * 8).toNat) (l.drop (y * 8).toNat) W0 (w.drewN m) (Kd.C_drewN HR.out m) hC6 z1
        rwa [List.length_drop] at this⟩
      clear z1 HR hC6 hA6 HA
      have hy1 : wrap64 (y + 1) = y + 1 := by unfold wrap64; omega
      go_wp2_with fail
      with_reducible refine (HLE.out _).mono ?_
      rintro e w1 ⟨rfl, ⟨k1, rfl⟩⟩
      go_wp2_with fail
      with_reducible refine (z3.out.1 _).mono ?_
      rintro e w1 ⟨rfl, ⟨k31, rfl⟩⟩
      go_wp2_with fail
      with_reducible refine (z3.out.2 _).mono ?_
      rintro e w1 ⟨rfl, ⟨k32, rfl⟩⟩
      go_wp2_with fail
      with_reducible refine (z4.out.1 _).mono ?_
      rintro e w1 ⟨rfl, ⟨k41, rfl⟩⟩
      go_wp2_with fail
      with_reducible refine (z4.out.2 _).mono ?_
      rintro e w1 ⟨rfl, ⟨k42, rfl⟩⟩
      go_wp2_with fail
      with_reducible refine (z5.out.1 _).mono ?_
      rintro e w1 ⟨rfl, ⟨k51, rfl⟩⟩
      go_wp2_with fail
      with_reducible refine (z5.out.2 _).mono ?_
      rintro e w1 ⟨rfl, ⟨k52, rfl⟩⟩
      go_wp2_with fail
      with_reducible refine (z6.out.1 _).mono ?_
      rintro e w1 ⟨rfl, ⟨k61, rfl⟩⟩
      go_wp2_with fail
      with_reducible refine (z6.out.2 _).mono ?_
      rintro e w1 ⟨rfl, ⟨k62, rfl⟩⟩
      go_wp2_with fail
      go_roundg g0
      case measure => omega
      case rel => exact ⟨n1, n2, n3, n4, y + 1, rfl, rfl, rfl, rfl, rfl, ⟨z8.out⟩, by repeat (first | exact Drawn0.refl _ | apply Drawn0.step)⟩
    · have hy2 : y = 8 := by obtain ⟨i, h1, h2, _⟩ := HA.out; omega
      have HM : Aside0 (m4 = upto l pQ 64 ∧ m5 = upto l pB 64 ∧ m6 = upto l pO 64 ∧ m7 = upto l pC 64) := ⟨by
        obtain ⟨i, h1, h2, h3⟩ := HA.out
        have : 8 * i = 64 := by omega
        rw [this] at h3
        exact h3⟩
      subst hy2
      clear HA hy
      obtain ⟨p0, p1, p2, p3, q0, q1, q2, q3⟩ := four' HK.out
      go_wp2_with fail
      go_end0
      have h0 : (w.drewN nd0).heap[b]? = some (.cells #[v0, v1, v2, v3] 95 (0, 0)) := HK.out
      have h1 := heap_setCell_same _ b 0 _ 95 (.int .u64 m4) h0
      have h2 := heap_setCell_same _ b 1 _ 95 (.int .u64 m5) h1
      have h3 := heap_setCell_same _ b 2 _ 95 (.int .u64 m6) h2
      have h4 := heap_setCell_same _ b 3 _ 95 (.int .u64 m7) h3
      obtain ⟨e1, e2, e3, e4⟩ := HM.out
      refine ⟨rfl, ?_, fun n hn => (((((pw_below_drewN (Below.refl _ _) nd0)).setCell hn _).setCell hn _).setCell hn _).setCell hn _⟩
      rw [← e1, ← e2, ← e3, ← e4]
      simpa using h4
end Go.Proofs.YtfkagnpdapkaaaaDoor.Err
/- A block's masks as tests of its places, the lowest bit of a word, and how many are set: told of the calls. -/
namespace Go.Proofs.YtfkagnpdapkaaaaDoor.Err
open Go.RowKit Go.Proofs.YtfkagnpdapkaaaaDoorW.PrintWords Go.Proofs.YtfkagnpdapkaaaaDoorW.PrintLast Go.Proofs.YtfkagnpdapkaaaaDoorW.PrintMore
open Go.Proofs.YtfkagnpdapkaaaaDoor.Dig Go.Proofs.YtfkagnpdapkaaaaDoor.Tab Go.Proofs.YtfkagnpdapkaaaaDoor.QF Go.Proofs.YtfkagnpdapkaaaaDoor.Bit
set_option linter.unusedVariables false
theorem upto_bf (l : List Int) (p : Nat → Bool) : ∀ n, upto l p n = bf (fun i => p (rd l (i : Int)).toNat) n
  | 0 => rfl
  | n + 1 => by
    have h := upto_bf l p n
    unfold upto at h ⊢
    rw [nb_add, List.map_append, Key.bitsOf_append, List.length_map, nb_length, h, Nat.zero_add]
    simp [nb, Key.bitsOf, bf]
theorem buf_drop {w : World} {ad : Addr} {c : Nat} {L : List Int} (hB : Buf w ad c L) (k : Nat) (hk : k ≤ L.length) : Kd.C (Kd.int .u8) w (some (ad.add k)) (L.drop k).length (L.drop k) :=
  Kd.C_of_reads (d := (0 : Int)) (h1 := fun _ => rfl) ⟨rfl, by have := hB.small; rw [List.length_drop]; omega, fun _ => ⟨_, rfl, fun j hj => by
    rw [List.length_drop] at hj
    have h := hB.at_ (k + j : Nat) (by omega) (by omega)
    rw [Int.toNat_natCast] at h
    rw [add_add, h]
    unfold rd
    rw [Int.toNat_natCast, List.getD_eq_getElem?_getD, List.getD_eq_getElem?_getD, List.getElem?_drop]⟩⟩
theorem rd_drop (L : List Int) (k i : Nat) : rd (L.drop k) (i : Int) = rd L ((k + i : Nat) : Int) := by
  unfold rd
  rw [Int.toNat_natCast, Int.toNat_natCast, List.getD_eq_getElem?_getD, List.getD_eq_getElem?_getD, List.getElem?_drop]
theorem fold_fin : ∀ b : Fin 256, pO b.1 = (b.1 == 123 || b.1 == 91) ∧ pC b.1 = (b.1 == 125 || b.1 == 93) := by decide +kernel
/-- The four masks of a block at a place. -/
theorem masks_at (L : List Int) (hb : Bytes L) (fr : Nat) (m : Nat) (h64 : fr + m + 64 ≤ L.length) :
    ((upto (L.drop (fr + m)) pQ 64 : Nat) : Int) = W (tQ (from_ L fr) m 64) ∧ ((upto (L.drop (fr + m)) pB 64 : Nat) : Int) = W (tB (from_ L fr) m 64) ∧
    ((upto (L.drop (fr + m)) pO 64 : Nat) : Int) = W (tO (from_ L fr) m 64) ∧ ((upto (L.drop (fr + m)) pC 64 : Nat) : Int) = W (tC (from_ L fr) m 64) := by
  have key : ∀ i : Nat, i < 64 → ∃ x : Nat, rd (L.drop (fr + m)) (i : Int) = (x : Int) ∧ x < 256 ∧ from_ L fr (m + i) = (x : Int) := fun i hi => by
    have hr : 0 ≤ rd L ((fr + m + i : Nat) : Int) ∧ rd L ((fr + m + i : Nat) : Int) < 256 := by
      obtain ⟨hh, e⟩ := rd_get L ((fr + m + i : Nat) : Int) (by omega) (by omega)
      rw [e]
      exact hb _ (List.getElem_mem _)
    obtain ⟨x, hx⟩ := Int.eq_ofNat_of_zero_le hr.1
    refine ⟨x, by rw [rd_drop, hx], by omega, ?_⟩
    unfold from_
    rw [← hx]
    congr 1
    omega
  refine ⟨?_, ?_, ?_, ?_⟩
  all_goals
    rw [upto_bf]
    refine congrArg Int.ofNat (bf_congr fun i hi => ?_)
    obtain ⟨x, h1, h2, h3⟩ := key i hi
    rw [h1, Int.toNat_natCast]
  · unfold pQ tQ; rw [h3, decide_eq_true hi, Bool.true_and, Bool.eq_iff_iff]; simp; omega
  · unfold pB tB; rw [h3, decide_eq_true hi, Bool.true_and, Bool.eq_iff_iff]; simp; omega
  · unfold tO; rw [h3, decide_eq_true hi, Bool.true_and, (fold_fin ⟨x, h2⟩).1, Bool.eq_iff_iff]; simp; omega
  · unfold tC; rw [h3, decide_eq_true hi, Bool.true_and, (fold_fin ⟨x, h2⟩).2, Bool.eq_iff_iff]; simp; omega
/-- The tests of the first v bytes alone. -/
theorem W_valid (g : Nat → Int) (m v : Nat) (hv : v ≤ 64) : (W fun i => tQ g m 64 i && decide (i < v)) = W (tQ g m v) ∧ (W fun i => tB g m 64 i && decide (i < v)) = W (tB g m v) ∧
    (W fun i => tO g m 64 i && decide (i < v)) = W (tO g m v) ∧ (W fun i => tC g m 64 i && decide (i < v)) = W (tC g m v) := by
  refine ⟨?_, ?_, ?_, ?_⟩
  all_goals
    refine W_congr fun i hi => ?_
    by_cases h : i < v
  · unfold tQ; simp [h, hi]
  · unfold tQ; simp [h, hi]
  · unfold tB; simp [h, hi]
  · unfold tB; simp [h, hi]
  · unfold tO; simp [h, hi]
  · unfold tO; simp [h, hi]
  · unfold tC; simp [h, hi]
  · unfold tC; simp [h, hi]
/-- The word of the first v bits. -/
theorem W_low (v : Nat) (hv : v < 64) : (2 : Int) ^ v - 1 = W fun i => decide (i < v) := by
  have hp := Nat.two_pow_pos v
  have e : (2 : Int) ^ v - 1 = ((2 ^ v - 1 : Nat) : Int) := by
    rw [show (2 : Int) ^ v = ((2 ^ v : Nat) : Int) by simp]
    omega
  rw [e]
  have hlt : 2 ^ v < 2 ^ 64 := Nat.pow_lt_pow_right (by decide) hv
  refine congrArg Int.ofNat (bf_ext (n := 64) (by omega) fun i hi => ?_)
  rw [Nat.testBit_two_pow_sub_one]
theorem ctz_of (r : Nat) : ∀ i k, i < k → Lib.ctzFrom k (2 ^ i * (2 * r + 1)) = i
  | 0, 0, h => by omega
  | 0, k + 1, _ => by
    unfold Lib.ctzFrom
    rw [if_pos (by omega)]
  | i + 1, 0, h => by omega
  | i + 1, k + 1, h => by
    have ih := ctz_of r i k (by omega)
    have e : 2 ^ (i + 1) * (2 * r + 1) = 2 * (2 ^ i * (2 * r + 1)) := by rw [Nat.pow_succ]; grind
    unfold Lib.ctzFrom
    rw [if_neg (by omega), e, Nat.mul_div_cancel_left _ (by decide), ih]
    omega
/-- The lowest bit's place. -/
theorem tz_low (p : Nat → Bool) (i : Nat) (hi : i < 64) (h1 : p i = true) (h0 : ∀ k, k < i → p k = false) : tz64.f (W p) = some (i : Int) := by
  obtain ⟨r, hr⟩ := bf_low p i hi h1 h0
  have hw := W_range p
  unfold tz64.f
  rw [if_pos hw]
  have e : (W p).toNat = 2 ^ i * (2 * r + 1) := by unfold W; rw [Int.toNat_natCast, hr]
  have hpos : 2 ^ i * (2 * r + 1) ≠ 0 := Nat.ne_of_gt (Nat.mul_pos (Nat.two_pow_pos i) (by omega))
  unfold Lib.ctz
  rw [e, if_neg hpos, ctz_of r i 64 hi]
theorem and127 (y : Nat) (hy : y < 18446744073709551616) : Go.bits .and .i64 (wrap64 (y : Int)) 127 = ((y % 128 : Nat) : Int) := by
  have h1 : (BitVec.ofInt 64 (wrap64 (y : Int))).toNat = y := by
    rw [BitVec.toNat_ofInt]
    unfold wrap64
    omega
  have h2 : (BitVec.ofInt 64 (127 : Int)).toNat = 127 := by decide
  show IntKind.i64.wrap ((BitVec.ofInt 64 (wrap64 (y : Int)) &&& BitVec.ofInt 64 (127 : Int)).toNat : Int) = _
  rw [BitVec.toNat_and, h1, h2, show (127 : Nat) = 2 ^ 7 - 1 by decide, Nat.and_two_pow_sub_one_eq_mod]
  exact IntWalk.i64_in _ (by omega)
/-- OnesCount64 counts. -/
theorem onesCount (p : Nat → Bool) (w : World) : Calls Tryd.prog 106 #[.int .u64 (W p)] w fun e w' => e = .returned (.int .i64 (cnt p 64)) ∧ Drawn0 w w' := by
  refine QC.bits_OnesCount64.calls _ _ w ?_
  obtain ⟨l, hl, hf, hs, hb1, x2, h2, hb2, h3⟩ := pop_bytes p
  obtain ⟨x1, y2, y3, s1, b1, s2, b2, s3, b3, s4⟩ := pop_sum l hl hf
  have hp := bf64 p
  have hc := cnt_le p 64
  have wr : ∀ n : Nat, n < 18446744073709551616 → IntKind.u64.wrap (n : Int) = (n : Int) := fun n h => by rw [IntKind.wrap_u64]; omega
  have an : ∀ a m : Nat, a < 18446744073709551616 → m < 18446744073709551616 → Go.bits .and .u64 (a : Int) (m : Int) = ((a &&& m : Nat) : Int) := fun a m h1 h2 => Swar.bits_and a m h1 h2
  have dv : ∀ a k : Nat, (a : Int) / (k : Int) = ((a / k : Nat) : Int) := fun a k => (Int.natCast_ediv a k).symm
  unfold QC.bits_OnesCount64.f W
  generalize bf p 64 = n at *
  obtain ⟨N1, hN1⟩ : ∃ N1, N1 = (n / 2 &&& 6148914691236517205) + (n &&& 6148914691236517205) := ⟨_, rfl⟩
  rw [← hN1] at hb1 h2
  have E1 : IntKind.u64.wrap ((Go.bits .and .u64 ((n : Int) / 2) 6148914691236517205) + (Go.bits .and .u64 (n : Int) 6148914691236517205)) = (N1 : Int) := by
    have e1 := an (n / 2) 6148914691236517205 (by omega) (by decide)
    have e2 := an n 6148914691236517205 hp (by decide)
    have e3 := dv n 2
    rw [← e3] at e1
    have e4 : Go.bits .and .u64 ((n : Int) / 2) 6148914691236517205 = ((n / 2 &&& 6148914691236517205 : Nat) : Int) := e1
    have e5 : Go.bits .and .u64 (n : Int) 6148914691236517205 = ((n &&& 6148914691236517205 : Nat) : Int) := e2
    rw [e4, e5, ← Int.natCast_add, ← hN1]
    exact wr N1 hb1
  have E2 : IntKind.u64.wrap ((Go.bits .and .u64 ((N1 : Int) / 4) 3689348814741910323) + (Go.bits .and .u64 (N1 : Int) 3689348814741910323)) = (x2 : Int) := by
    have e1 := an (N1 / 4) 3689348814741910323 (by omega) (by decide)
    have e2 := an N1 3689348814741910323 hb1 (by decide)
    have e3 := dv N1 4
    rw [← e3] at e1
    have e4 : Go.bits .and .u64 ((N1 : Int) / 4) 3689348814741910323 = ((N1 / 4 &&& 3689348814741910323 : Nat) : Int) := e1
    have e5 : Go.bits .and .u64 (N1 : Int) 3689348814741910323 = ((N1 &&& 3689348814741910323 : Nat) : Int) := e2
    rw [e4, e5, ← Int.natCast_add, h2]
    exact wr x2 (by omega)
  have E3 : Go.bits .and .u64 (IntKind.u64.wrap ((x2 : Int) / 16 + x2)) 1085102592571150095 = ((val 8 l : Nat) : Int) := by
    have e3 : (x2 : Int) / 16 = ((x2 / 16 : Nat) : Int) := dv x2 16
    have e4 := an (x2 / 16 + x2) 1085102592571150095 hb2 (by decide)
    rw [e3, ← Int.natCast_add, wr _ hb2]
    rw [h3] at e4
    exact e4
  generalize val 8 l = V at *
  have E4 : IntKind.u64.wrap ((V : Int) + (V : Int) / 256) = (x1 : Int) := by
    have e3 : (V : Int) / 256 = ((V / 256 : Nat) : Int) := dv V 256
    rw [e3, ← Int.natCast_add, s1]
    exact wr x1 b1
  have E5 : IntKind.u64.wrap ((x1 : Int) + (x1 : Int) / 65536) = (y2 : Int) := by
    have e3 : (x1 : Int) / 65536 = ((x1 / 65536 : Nat) : Int) := dv x1 65536
    rw [e3, ← Int.natCast_add, s2]
    exact wr y2 b2
  have E6 : IntKind.u64.wrap ((y2 : Int) + (y2 : Int) / 4294967296) = (y3 : Int) := by
    have e3 : (y2 : Int) / 4294967296 = ((y2 / 4294967296 : Nat) : Int) := dv y2 4294967296
    rw [e3, ← Int.natCast_add, s3]
    exact wr y3 b3
  rw [E1, E2, E3, E4, E5, E6, and127 y3 b3, s4, hs]
end Go.Proofs.YtfkagnpdapkaaaaDoor.Err
/- What the scan makes of a block's masks, step by step. -/
namespace Go.Proofs.YtfkagnpdapkaaaaDoor.Err
open Go.RowKit Go.Proofs.YtfkagnpdapkaaaaDoorW.PrintWords Go.Proofs.YtfkagnpdapkaaaaDoorW.PrintLast Go.Proofs.YtfkagnpdapkaaaaDoorW.PrintMore
open Go.Proofs.YtfkagnpdapkaaaaDoor.Dig Go.Proofs.YtfkagnpdapkaaaaDoor.Tab Go.Proofs.YtfkagnpdapkaaaaDoor.QF Go.Proofs.YtfkagnpdapkaaaaDoor.Bit
set_option linter.unusedVariables false
/-- Whether it is in a text, and whether a byte is escaped, as words. -/
def sI (i : Bool) : Int := if i then 18446744073709551615 else 0
def sE (e : Bool) : Int := if e then 1 else 0
theorem sI_ne (i : Bool) : (sI i != 0) = i := by cases i <;> rfl
theorem sE_ne (e : Bool) : (sE e != 0) = e := by cases e <;> rfl
theorem sE_W (e : Bool) : sE e = Bit.W fun i => decide (i = 0) && e := by
  cases e
  · exact W_zero.trans (W_congr fun i _ => by simp)
  · refine (W_num 1 (by decide)).trans (W_congr fun i _ => ?_)
    cases i with
    | zero => simp
    | succ i => rw [Nat.testBit_lt_two_pow (Nat.lt_of_lt_of_le Nat.one_lt_two (by rw [Nat.pow_succ]; have := Nat.two_pow_pos i; omega))]; simp
theorem sI_W (i : Bool) : sI i = Bit.W fun _ => i := by
  cases i
  · exact W_zero
  · exact W_ones
theorem even_W : (6148914691236517205 : Int) = Bit.W fun i => decide (i % 2 = 0) := by
  refine (W_num 6148914691236517205 (by decide)).trans (W_congr ?_)
  decide
theorem W_shl1 (p : Nat → Bool) : IntKind.u64.wrap (Bit.W p * 2) = Bit.W fun i => decide (1 ≤ i) && p (i - 1) := W_shl p 1
theorem add64 (x y : Nat → Bool) (w : World) : Sem.run Tryd.prog (callFunc 105 #[.int .u64 (Bit.W x), .int .u64 (Bit.W y), .int .u64 0]) w = .ok (.value (.tuple #[.int .u64 (Bit.W fun i => (x i ^^ y i) ^^ car x y i), .int .u64 (sE (car x y 64))])) w := by
  have hx := W_range x
  have hy := W_range y
  have h := bf_add x y 64
  have h2 := bf64 fun i => (x i ^^ y i) ^^ car x y i
  rw [run_callFunc_extern Tryd.func105 (by kernel_rfl) (by kernel_rfl) (by kernel_rfl) (e := add64Entry) (by kernel_rfl), run_add64 _ _ 0 hx.1 hy.1 (by decide) (by decide)]
  have e1 : (Bit.W x + Bit.W y + 0) % 18446744073709551616 = Bit.W fun i => (x i ^^ y i) ^^ car x y i := by
    unfold Bit.W
    have : (car x y 64).toNat ≤ 1 := Bool.toNat_le _
    omega
  have e2 : (Bit.W x + Bit.W y + 0) / 18446744073709551616 = sE (car x y 64) := by
    unfold Bit.W sE
    cases hc : car x y 64
    · rw [hc] at h
      simp only [Bool.toNat_false, Nat.mul_zero, Nat.add_zero] at h
      simp
      omega
    · rw [hc] at h
      simp only [Bool.toNat_true, Nat.mul_one] at h
      simp
      omega
  rw [e1, e2]
  rfl
/-- The escaped places, by one addition. -/
theorem esc_ints (g : Nat → Int) (m v : Nat) (pe : Int) (hpe : pe = sE (eS g m)) : ∃ x19 y19 x20 y21 x21 x22 x23 y24 z24 x24 : Int,
    Go.bits .andNot .u64 (Bit.W (tB g m v)) pe = x19 ∧ IntKind.u64.wrap (x19 * 2) = y19 ∧ Go.bits .or .u64 y19 pe = x20 ∧ Go.bits .andNot .u64 x19 6148914691236517205 = y21 ∧ Go.bits .andNot .u64 y21 x20 = x21 ∧
    (∀ w, Sem.run Tryd.prog (callFunc 105 #[.int .u64 x21, .int .u64 x19, .int .u64 0]) w = .ok (.value (.tuple #[.int .u64 x22, .int .u64 x23])) w) ∧
    IntKind.u64.wrap (x22 * 2) = y24 ∧ Go.bits .xor .u64 6148914691236517205 y24 = z24 ∧ Go.bits .and .u64 z24 x20 = x24 ∧ x24 = Bit.W (tE g m v) ∧ x23 = sE (tE g m v 64) := by
  have e19 : Go.bits .andNot .u64 (Bit.W (tB g m v)) pe = Bit.W (bs (eS g m) (tB g m v)) := by rw [hpe, sE_W, W_andNot]; rfl
  have e20 : Go.bits .or .u64 (Bit.W fun i => decide (1 ≤ i) && bs (eS g m) (tB g m v) (i - 1)) pe = Bit.W (fol (eS g m) (tB g m v)) := by rw [hpe, sE_W, W_or]; rfl
  have e21 : Go.bits .andNot .u64 (Bit.W fun i => bs (eS g m) (tB g m v) i && !decide (i % 2 = 0)) (Bit.W (fol (eS g m) (tB g m v))) = Bit.W (odd_ (eS g m) (tB g m v)) := by
    rw [W_andNot]
    refine W_congr fun i _ => ?_
    have hp : (!decide (i % 2 = 0)) = decide (i % 2 = 1) := by
      by_cases h : i % 2 = 0
      · rw [decide_eq_true h, decide_eq_false (by omega)]; rfl
      · rw [decide_eq_false h, decide_eq_true (by omega)]; rfl
    simp only [hp]
    rfl
  refine ⟨_, _, _, _, _, _, _, _, _, _, e19, W_shl1 _, e20, by rw [even_W, W_andNot], e21, add64 _ _, W_shl1 _, by rw [even_W, W_xor], by rw [W_and], ?_, ?_⟩
  · exact W_congr fun i _ => esc_word (eS g m) (tB g m v) i
  · rw [esc_carry (eS g m) (tB g m v) 63 rfl]
    rfl
theorem W_pre (q : Nat → Bool) (k : Nat) (x : Int) (hx : x = Bit.W (X q k)) : Go.bits .xor .u64 x (IntKind.u64.wrap (x * 2 ^ k)) = Bit.W (X q (k + k)) := by
  rw [hx, W_shl, W_xor, X_dbl]
/-- The places inside of texts, by the parity of the quotes. -/
theorem in_ints (g : Nat → Int) (m v : Nat) (si x24 : Int) (hsi : si = sI (iS g m)) (h24 : x24 = Bit.W (tE g m v)) : ∃ x25 a1 b1 a2 b2 a3 b3 a4 b4 a5 b5 a6 b6 x26 : Int,
    Go.bits .andNot .u64 (Bit.W (tQ g m v)) x24 = x25 ∧ IntKind.u64.wrap (x25 * 2) = a1 ∧ Go.bits .xor .u64 x25 a1 = b1 ∧ IntKind.u64.wrap (b1 * 4) = a2 ∧ Go.bits .xor .u64 b1 a2 = b2 ∧ IntKind.u64.wrap (b2 * 16) = a3 ∧ Go.bits .xor .u64 b2 a3 = b3 ∧
    IntKind.u64.wrap (b3 * 256) = a4 ∧ Go.bits .xor .u64 b3 a4 = b4 ∧ IntKind.u64.wrap (b4 * 65536) = a5 ∧ Go.bits .xor .u64 b4 a5 = b5 ∧ IntKind.u64.wrap (b5 * 4294967296) = a6 ∧ Go.bits .xor .u64 b5 a6 = b6 ∧ Go.bits .xor .u64 b6 si = x26 ∧ x26 = Bit.W (tI g m v) := by
  have e25 : Go.bits .andNot .u64 (Bit.W (tQ g m v)) x24 = Bit.W (X (fun i => tQ g m v i && !tE g m v i) 1) := by
    rw [h24, W_andNot]
    exact W_congr fun i _ => by simp [X]
  refine ⟨_, _, _, _, _, _, _, _, _, _, _, _, _, _, e25, rfl, W_pre _ 1 _ rfl, rfl, W_pre _ 2 _ rfl, rfl, W_pre _ 4 _ rfl, rfl, W_pre _ 8 _ rfl, rfl, W_pre _ 16 _ rfl, rfl, W_pre _ 32 _ rfl, by rw [hsi, sI_W, W_xor], ?_⟩
  refine W_congr fun i hi => ?_
  unfold tI
  rw [X_past _ i _ (by omega)]
/-- The brackets outside of texts. -/
theorem out_ints (g : Nat → Int) (m v : Nat) (x24 x26 : Int) (h24 : x24 = Bit.W (tE g m v)) (h26 : x26 = Bit.W (tI g m v)) : ∃ y27 x27 x28 x29 x32 : Int,
    Go.bits .or .u64 x26 x24 = y27 ∧ Go.bits .xor .u64 IntKind.u64.max y27 = x27 ∧ Go.bits .and .u64 (Bit.W (tO g m v)) x27 = x28 ∧ Go.bits .and .u64 (Bit.W (tC g m v)) x27 = x29 ∧ x28 = Bit.W (opn g m v) ∧ x29 = Bit.W (cls g m v) ∧
    Go.bits .or .u64 x28 x29 = x32 ∧ x32 = Bit.W (fun i => opn g m v i || cls g m v i) := by
  have e27 : Go.bits .xor .u64 IntKind.u64.max (Bit.W fun i => tI g m v i || tE g m v i) = Bit.W fun i => !(tI g m v i || tE g m v i) := by
    rw [show IntKind.u64.max = (18446744073709551615 : Int) from rfl, W_ones, W_xor]
    exact W_congr fun i _ => by simp
  refine ⟨_, _, Bit.W (opn g m v), Bit.W (cls g m v), _, by rw [h26, h24, W_or], e27, by rw [W_and]; rfl, by rw [W_and]; rfl, rfl, rfl, by rw [W_or], rfl⟩
/-- The state behind a block, as words. -/
theorem state_in (g : Nat → Int) (m v : Nat) (hv : v ≤ 64) (x26 : Int) (h : x26 = Bit.W (tI g m v)) : IntKind.u64.wrap (wrap64 x26 / 9223372036854775808) = sI (iS g (m + v)) := by
  have hb := tI_last g m v hv
  have hd := bf_bit (tI g m v) 64 63
  have hr := bf64 (tI g m v)
  rw [h, IntKind.wrap_u64, ← hb]
  have e : bf (tI g m v) 64 = bf (tI g m v) 63 + 9223372036854775808 * (tI g m v 63).toNat := rfl
  have hl : bf (tI g m v) 63 < 9223372036854775808 := bf_lt _ 63
  unfold Bit.W sI wrap64
  cases hc : tI g m v 63
  · rw [hc] at e
    simp only [Bool.toNat_false] at e
    simp
    omega
  · rw [hc] at e
    simp only [Bool.toNat_true] at e
    simp
    omega
theorem state_esc (g : Nat → Int) (m v : Nat) (hv : v < 64) (x24 : Int) (h : x24 = Bit.W (tE g m v)) : Go.bits .and .u64 (x24 / 2 ^ v) 1 = sE (eS g (m + v)) := by
  have e1 : (1 : Int) = sE true := rfl
  rw [h, W_shr, e1, sE_W true, W_and, ← tE_eS g m v v (Nat.le_refl _), sE_W]
  refine W_congr fun i _ => ?_
  cases i with
  | zero => simp [hv]
  | succ i => simp
theorem state_carry (g : Nat → Int) (m : Nat) : sE (tE g m 64 64) = sE (eS g (m + 64)) := by rw [tE_eS g m 64 64 (Nat.le_refl _)]
/-- The brackets of a block one by one: those ahead of a place are counted, the others are left. -/
structure BrSt (g : Nat → Int) (m v j : Nat) (d x : Int) : Prop where
  le : j ≤ v
  dep : d = dS g (m + j)
  live : Live g (m + j)
  left : x = Bit.W fun i => decide (j ≤ i) && (opn g m v i || cls g m v i)
theorem BrSt.start {g : Nat → Int} {m v : Nat} {d x : Int} (hd : d = dS g m) (hl : Live g m) (hx : x = Bit.W (fun i => opn g m v i || cls g m v i)) : BrSt g m v 0 d x :=
  ⟨Nat.zero_le _, hd, hl, by rw [hx]; exact W_congr fun i _ => by simp⟩
theorem BrSt.done {g : Nat → Int} {m v j : Nat} {d x : Int} (h : BrSt g m v j d x) (hv : v ≤ 64) (hx : x = 0) : d = dS g (m + v) ∧ Live g (m + v) := by
  have hz : ∀ i, i < 64 → (decide (j ≤ i) && (opn g m v i || cls g m v i)) = false := fun i hi => W_bit (h.left.symm.trans (hx.trans W_zero)) i hi
  have hle := h.le
  obtain ⟨h1, h2⟩ := dS_gap g m v j (v - j) (by omega) fun i h1 h2 => by
    have := hz i (by omega)
    rw [decide_eq_true h1, Bool.true_and] at this
    exact this
  rw [show j + (v - j) = v by omega] at h1 h2
  exact ⟨h.dep.trans h1.symm, h2 h.live⟩
theorem W_test (p : Nat → Bool) (i : Nat) (hi : i < 64) : (Go.bits .and .u64 (Bit.W p) (IntKind.u64.wrap (2 ^ i)) != 0) = p i := by
  have hlt : 2 ^ i < 2 ^ 64 := Nat.pow_lt_pow_right (by decide) hi
  have e : IntKind.u64.wrap (2 ^ i) = Bit.W fun k => decide (i = k) := by
    have e2 : (2 : Int) ^ i = ((2 ^ i : Nat) : Int) := by simp
    have e3 : ∀ k, (2 ^ i).testBit k = decide (i = k) := fun k => Nat.testBit_two_pow
    rw [e2]
    generalize 2 ^ i = N at *
    rw [IntKind.wrap_u64, show (N : Int) % 18446744073709551616 = (N : Int) by omega]
    exact (W_num N (by omega)).trans (W_congr fun k _ => e3 k)
  rw [e, W_and]
  cases hp : p i
  · have : (Bit.W fun k => p k && decide (i = k)) = 0 := (W_congr fun k _ => by
      by_cases h : i = k
      · subst h; simp [hp]
      · simp [h]).trans W_zero.symm
    rw [this]
    rfl
  · refine bne_iff_ne.mpr fun h => ?_
    have := W_bit (h.trans W_zero) i hi
    simp [hp] at this
theorem BrSt.next {g : Nat → Int} {m v j : Nat} {d x : Int} (h : BrSt g m v j d x) (hv : v ≤ 64) (hx : x ≠ 0) : ∃ (i : Nat) (x' : Int), i < v ∧ j ≤ i ∧ tz64.f x = some (i : Int) ∧ Go.bits .and .u64 x (IntKind.u64.wrap (x - 1)) = x' ∧
    ((opn g m v i = true ∧ BrSt g m v (i + 1) (d + 1) x') ∨ (opn g m v i = false ∧ (d - 1 = 0 → ShutAt g (m + i)) ∧ (d - 1 ≠ 0 → BrSt g m v (i + 1) (d - 1) x'))) := by
  rcases first_of (fun i => decide (j ≤ i) && (opn g m v i || cls g m v i)) 64 with h0 | ⟨i, hi, h1, h2⟩
  · exact absurd (h.left.trans ((W_congr fun i hi => h0 i hi).trans W_zero.symm)) hx
  have hji : j ≤ i := by
    by_cases hji : j ≤ i
    · exact hji
    · simp [hji] at h1
  have hb : (opn g m v i || cls g m v i) = true := by rw [decide_eq_true hji, Bool.true_and] at h1; exact h1
  have hiv : i < v := by
    by_cases hiv : i < v
    · exact hiv
    · rw [opn_past g m v i hiv, cls_past g m v i hiv] at hb; cases hb
  obtain ⟨g1, g2⟩ := dS_gap g m v j (i - j) (by omega) fun k k1 k2 => by
    have := h2 k (by omega)
    simp only [decide_eq_true k1, Bool.true_and] at this
    exact this
  rw [show j + (i - j) = i by omega] at g1 g2
  have hl := g2 h.live
  have hd : d = dS g (m + i) := h.dep.trans g1.symm
  have hr := W_range fun i => decide (j ≤ i) && (opn g m v i || cls g m v i)
  have hx1 : IntKind.u64.wrap (x - 1) = x - 1 := by
    have hxr := hr
    rw [← h.left] at hxr
    rw [IntKind.wrap_u64]
    omega
  have ho := opn_oS g m v i hiv
  have hc := cls_cS g m v i hiv
  have hn : dS g (m + (i + 1)) = d + (opn g m v i).toNat - (cls g m v i).toNat := by rw [hd, ho, hc]; rfl
  have hleft : (Bit.W fun k => decide (i + 1 ≤ k) && (decide (j ≤ k) && (opn g m v k || cls g m v k))) = Bit.W fun k => decide (i + 1 ≤ k) && (opn g m v k || cls g m v k) := W_congr fun k _ => by
    by_cases hk : i + 1 ≤ k
    · simp [hk, show j ≤ k by omega]
    · simp [hk]
  refine ⟨i, Bit.W fun k => decide (i + 1 ≤ k) && (opn g m v k || cls g m v k), hiv, hji, by rw [h.left]; exact tz_low _ i hi h1 h2, by rw [hx1, h.left]; exact (W_clear _ i hi h1 h2).trans hleft, ?_⟩
  cases hop : opn g m v i
  · rw [hop, Bool.false_or] at hb
    rw [hop, hb] at hn
    refine .inr ⟨rfl, fun h0 => ⟨hl, by rw [← hc]; exact hb, ?_⟩, fun h0 => ⟨by omega, ?_, ?_, rfl⟩⟩
    · rw [show m + i + 1 = m + (i + 1) by omega, hn]; simp; exact h0
    · rw [hn]; simp
    · rw [show m + (i + 1) = m + i + 1 by omega]
      refine hl.next fun _ => ?_
      rw [show m + i + 1 = m + (i + 1) by omega, hn]
      simp
      exact h0
  · have hcl : cls g m v i = false := by
      cases hcc : cls g m v i
      · rfl
      · exfalso
        unfold opn tO at hop
        unfold cls tC at hcc
        simp at hop hcc
        omega
    rw [hop, hcl] at hn
    refine .inl ⟨rfl, by omega, ?_, ?_, rfl⟩
    · rw [hn]; simp
    · rw [show m + (i + 1) = m + i + 1 by omega]
      refine hl.next fun h3 => ?_
      rw [← hc, hcl] at h3
      cases h3
end Go.Proofs.YtfkagnpdapkaaaaDoor.Err
