/- The digits at a place of a buffer are read: how many they are, where they end, and, of at most 19, their value; of those that begin with 0 the first one alone. For every input; bytes of more than 1000 are not spoken of. -/
import Derived.Test.YtoigokgechcaiaaDigPure
namespace Go.Proofs.Ytoigokgechcaiaa.Pure
open Go.RowKit Go.Proofs.Ytoigokgechcaiaa.QDg Go.Proofs.YtoigokgechcaiaaW.PrintWords Go.Proofs.YtoigokgechcaiaaW.PrintLast Go.Proofs.Ytoigokgechcaiaa.Dig

theorem digits_main (l : List Int) (i k : Nat) (hb : Bytes l) (hl : l.length ≤ 1000) (hi : i ≤ l.length) (hk : l.length < k) : laws_FnDigits.j0 (k + 1) l (i : Int) false = some true := by
  have hr := run8_ge l i hi
  simp only [laws_FnDigits.j0]
  rw [if_neg Bool.false_ne_true, run8_f l (by omega) i _ hi (by omega)]
  simp only [Option.bind_some]
  rw [term_f l (by omega)]
  simp only [Option.bind_some]
  unfold impl_Digits.f
  rw [Parse_f l hb (by omega) i _ hi (by omega)]
  simp only [Option.bind_some]
  rw [if_pos trivial, if_pos (by unfold wrap64; omega), if_pos (by omega), if_pos (by omega), if_pos (by omega)]
  have hcut : (l.take ((run8 l i : Nat) : Int).toNat).drop ((i : Nat) : Int).toNat = cut l i (run8 l i) := by rw [Int.toNat_natCast, Int.toNat_natCast]; rfl
  have hcl := cut_length l i (run8 l i) hr.1 hr.2
  rw [hcut, Value8_f _ (by omega) _ (by omega)]
  simp only [Option.bind_some]
  by_cases h0 : ((run8 l i - i : Nat) : Int) = 0
  · rw [if_pos h0]
  · rw [if_neg h0]
    by_cases h19 : ((run8 l i - i : Nat) : Int) > 19
    · rw [if_pos h19]
    · rw [if_neg h19]
      have hv := val_lt (cut l i (run8 l i)) (fun c hc => by
        obtain ⟨m, h1, h2, rfl⟩ := cut_mem l i (run8 l i) hr.2 c hc
        exact run8_digit l i m h1 h2) 0 0 (by decide)
      rw [hcl] at hv
      have h10 : 10 ^ (0 + (run8 l i - i)) ≤ 10 ^ 19 := Nat.pow_le_pow_right (by decide) (by omega)
      have h64 : val 0 (cut l i (run8 l i)) < 18446744073709551616 := Nat.lt_of_lt_of_le (Nat.lt_of_lt_of_le hv h10) (by decide)
      unfold fit
      rw [if_pos h64, Nat.mod_eq_of_lt h64]
      simp

theorem FnDigits : laws_FnDigits.Pure := by
  intro l a h1 h2 hw ha
  obtain ⟨K, hK⟩ : ∃ K, K = l.length + 1 := ⟨_, rfl⟩
  refine ⟨K + 1, ?_⟩
  unfold laws_FnDigits.f
  by_cases c1 : (l.length : Int) > 2147483647
  · rw [if_pos c1]
  rw [if_neg c1]
  have ht : ∀ x, laws_FnDigits.j0 (K + 1) l x true = some true := fun x => by rw [laws_FnDigits.j0]; exact if_pos rfl
  by_cases c2 : (l.length : Int) > 1000
  · rw [if_pos c2, ht]
  rw [if_neg c2]
  by_cases c3 : a < 0
  · rw [if_pos c3, ht]
  rw [if_neg c3]
  by_cases c4 : a > (l.length : Int)
  · rw [decide_eq_true c4, ht]
  rw [decide_eq_false c4]
  obtain ⟨i, rfl⟩ := Int.eq_ofNat_of_zero_le (by omega : 0 ≤ a)
  exact digits_main l i _ (bytes_of l hw) (by omega) (by omega) (by omega)
end Go.Proofs.Ytoigokgechcaiaa.Pure
