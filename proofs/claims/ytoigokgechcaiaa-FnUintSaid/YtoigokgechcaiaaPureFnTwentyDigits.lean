/- The value of twenty digits, the first one not 0, is told if it has 64 bits, and otherwise not. For every input; bytes of more than 1000 are not spoken of. -/
import Derived.Test.YtoigokgechcaiaaDigPure
namespace Go.Proofs.Ytoigokgechcaiaa.Pure
open Go.RowKit Go.Proofs.Ytoigokgechcaiaa.QDg Go.Proofs.YtoigokgechcaiaaW.PrintWords Go.Proofs.YtoigokgechcaiaaW.PrintLast Go.Proofs.Ytoigokgechcaiaa.Dig

/-- The package's loop over the first nineteen of twenty digits, and its end. -/
theorem twenty_l (l m : List Int) (s : Nat) (hs : s + 20 ≤ l.length) (hl : l.length + m.length < 140737488355328) (hd : ∀ j : Nat, s ≤ j → j < s + 20 → isD (rd l (j : Int)) = true) : ∀ d i k, i + d = 19 → d < k →
    gojsonnum_TwentyDigits.l0 k (l ++ m) (s : Int) ((val 0 (cut l s (s + i)) : Nat) : Int) (i : Int) = some (fit (val 0 (cut l s (s + 20)))) := by
  intro d
  induction d with
  | zero =>
    intro i k hi hk
    obtain ⟨k, rfl⟩ : ∃ m, k = m + 1 := ⟨k - 1, by omega⟩
    obtain rfl : i = 19 := by omega
    simp only [gojsonnum_TwentyDigits.l0]
    have hw : wrap64 ((s : Int) + 19) = ((s + 19 : Nat) : Int) := by unfold wrap64; omega
    rw [if_neg (by omega), hw, if_pos (by omega), if_pos (by rw [List.length_append]; omega), rd_app l m (s + 19) (by omega)]
    have h20 := cut_snoc l s (s + 19) (by omega) (by omega)
    have h19 := hd (s + 19) (by omega) (by omega)
    have hv := val_lt (cut l s (s + 19)) (fun c hc => by
      obtain ⟨j, h1, h2, rfl⟩ := cut_mem l s (s + 19) (by omega) c hc
      exact hd j h1 (by omega)) 0 0 (by decide)
    rw [cut_length l s (s + 19) (by omega) (by omega)] at hv
    have hv' : val 0 (cut l s (s + 19)) < 10000000000000000000 := by
      have : s + 19 - s = 19 := by omega
      rw [this] at hv
      exact hv
    rw [h20, val_app]
    simp only [val]
    simp only [isD, decide_eq_true_eq] at h19
    generalize rd l ((s + 19 : Nat) : Int) = c at *
    generalize val 0 (cut l s (s + 19)) = v at *
    have e : IntKind.u64.wrap (IntKind.u64.wrap ((v : Int) * 10) + (c - 48) % 256) = (((v * 10 + ((c - 48) % 256).toNat) % 18446744073709551616 : Nat) : Int) := by
      rw [show ∀ z, IntKind.u64.wrap z = z % 18446744073709551616 from fun z => by simp [IntKind.wrap, IntKind.bits, IntKind.signed], show ∀ z, IntKind.u64.wrap z = z % 18446744073709551616 from fun z => by simp [IntKind.wrap, IntKind.bits, IntKind.signed]]
      omega
    rw [e]
    unfold fit
    by_cases c1 : (v : Int) > 1844674407370955161
    · rw [if_pos c1, if_neg (by omega)]
    · rw [if_neg c1]
      by_cases c2 : (v : Int) = 1844674407370955161
      · rw [if_pos c2]
        by_cases c3 : (c - 48) % 256 > 5
        · rw [if_pos c3, if_neg (by omega)]
        · rw [if_neg c3, if_pos (by omega), Nat.mod_eq_of_lt (by omega)]
      · rw [if_neg c2, if_pos (by omega), Nat.mod_eq_of_lt (by omega)]
  | succ d ih =>
    intro i k hi hk
    obtain ⟨k, rfl⟩ : ∃ m, k = m + 1 := ⟨k - 1, by omega⟩
    simp only [gojsonnum_TwentyDigits.l0]
    have hw : wrap64 ((s : Int) + (i : Int)) = ((s + i : Nat) : Int) := by unfold wrap64; omega
    have hw1 : wrap64 ((i : Int) + 1) = ((i + 1 : Nat) : Int) := by unfold wrap64; omega
    rw [if_pos (by omega), hw, if_pos (by omega), if_pos (by rw [List.length_append]; omega), rd_app l m (s + i) (by omega), hw1]
    have hcs := cut_snoc l s (s + i) (by omega) (by omega)
    have hdi := hd (s + i) (by omega) (by omega)
    have hv := val_lt (cut l s (s + i)) (fun c hc => by
      obtain ⟨j, h1, h2, rfl⟩ := cut_mem l s (s + i) (by omega) c hc
      exact hd j h1 (by omega)) 0 0 (by decide)
    rw [cut_length l s (s + i) (by omega) (by omega)] at hv
    have h10 : 10 ^ (0 + (s + i - s)) ≤ 10 ^ 18 := Nat.pow_le_pow_right (by decide) (by omega)
    have hv' : val 0 (cut l s (s + i)) < 1000000000000000000 := Nat.lt_of_lt_of_le hv h10
    have hn := ih (i + 1) k (by omega) (by omega)
    rw [show s + (i + 1) = s + i + 1 from by omega, hcs, val_app] at hn
    simp only [val] at hn
    simp only [isD, decide_eq_true_eq] at hdi
    generalize rd l ((s + i : Nat) : Int) = c at *
    generalize val 0 (cut l s (s + i)) = v at *
    have e : IntKind.u64.wrap (IntKind.u64.wrap ((v : Int) * 10) + (c - 48) % 256) = ((v * 10 + ((c - 48) % 256).toNat : Nat) : Int) := by
      rw [show ∀ z, IntKind.u64.wrap z = z % 18446744073709551616 from fun z => by simp [IntKind.wrap, IntKind.bits, IntKind.signed], show ∀ z, IntKind.u64.wrap z = z % 18446744073709551616 from fun z => by simp [IntKind.wrap, IntKind.bits, IntKind.signed]]
      omega
    rw [e]
    exact hn

theorem twenty_main (l : List Int) (i k : Nat) (hl : l.length ≤ 1000) (hi : i < l.length) (hr : runEnd l (l.length - i) i = i + 20) (hk : l.length + 20 < k) : laws_FnTwentyDigits.j0 (k + 1) l (i : Int) false = some true := by
  have hge := runEnd_ge l (l.length - i) i
  have hd : ∀ j : Nat, i ≤ j → j < i + 20 → isD (rd l (j : Int)) = true := fun j h1 h2 => runEnd_digit l (l.length - i) i j h1 (by omega)
  simp only [laws_FnTwentyDigits.j0]
  have hw : wrap64 ((i : Int) + 20) = ((i + 20 : Nat) : Int) := by unfold wrap64; omega
  rw [if_neg Bool.false_ne_true, hw, if_pos (by omega), if_pos (by omega), if_pos (by omega)]
  have hcut : (l.take ((i + 20 : Nat) : Int).toNat).drop ((i : Nat) : Int).toNat = cut l i (i + 20) := by rw [Int.toNat_natCast, Int.toNat_natCast]; rfl
  rw [hcut, Value8_f _ (by rw [cut_length l i (i + 20) (by omega) (by omega)]; omega) _ (by rw [cut_length l i (i + 20) (by omega) (by omega)]; omega)]
  simp only [Option.bind_some]
  rw [term_f l (by omega)]
  simp only [Option.bind_some]
  have ht := twenty_l l [0] i (by omega) (by simp; omega) hd 19 0 k rfl (by omega)
  rw [show i + 0 = i from rfl, cut_self] at ht
  unfold impl_TwentyDigits.f gojsonnum_TwentyDigits.f
  have ht' : gojsonnum_TwentyDigits.l0 k (l ++ [0]) (i : Int) 0 0 = some (fit (val 0 (cut l i (i + 20)))) := ht
  rw [ht']
  simp only [Option.bind_some]
  rw [if_pos (by simp)]
  by_cases h : (fit (val 0 (cut l i (i + 20)))).2 = true
  · rw [if_pos h]; simp
  · rw [if_neg h]

theorem FnTwentyDigits : laws_FnTwentyDigits.Pure := by
  intro l a h1 h2 hw ha
  obtain ⟨K, hK⟩ : ∃ K, K = l.length + 21 := ⟨_, rfl⟩
  refine ⟨K + 1, ?_⟩
  unfold laws_FnTwentyDigits.f
  by_cases c1 : (l.length : Int) > 2147483647
  · rw [if_pos c1]
  rw [if_neg c1]
  have ht : ∀ x, laws_FnTwentyDigits.j0 (K + 1) l x true = some true := fun x => by rw [laws_FnTwentyDigits.j0]; exact if_pos rfl
  by_cases c2 : (l.length : Int) > 1000
  · rw [if_pos c2, ht]
  rw [if_neg c2]
  by_cases c3 : a < 0
  · rw [if_pos c3, ht]
  rw [if_neg c3]
  by_cases c4 : a ≥ (l.length : Int)
  · rw [if_pos c4, ht]
  rw [if_neg c4, if_pos (by omega), if_pos (by omega)]
  by_cases c5 : rd l a = 48
  · rw [if_pos c5, ht]
  rw [if_neg c5]
  obtain ⟨i, rfl⟩ := Int.eq_ofNat_of_zero_le (by omega : 0 ≤ a)
  unfold spec_DigitsEnd8.f
  rw [digits8_f l (by omega) i _ (by omega) (by omega), Option.bind_some, Option.bind_some]
  have hw20 : wrap64 ((i : Int) + 20) = ((i + 20 : Nat) : Int) := by unfold wrap64; omega
  rw [hw20]
  by_cases c6 : runEnd l (l.length - i) i = i + 20
  · rw [c6, show (((i + 20 : Nat) : Int) != ((i + 20 : Nat) : Int)) = false from by simp]
    exact twenty_main l i _ (by omega) (by omega) c6 (by omega)
  · rw [show (((runEnd l (l.length - i) i : Nat) : Int) != ((i + 20 : Nat) : Int)) = true from by simp; omega, ht]
end Go.Proofs.Ytoigokgechcaiaa.Pure
