/- Bytes are read as a whole number of 64 bits without a sign just if they are the digits of one, without a 0 ahead of others. For every input; bytes of more than 1000 are not spoken of. -/
import Derived.Test.YtoigokgechcaiaaPureFnTwentyDigits
import Derived.Test.YtoigokgechcaiaaQUt1
namespace Go.Proofs.Ytoigokgechcaiaa.Pure
open Go.RowKit Go.Proofs.Ytoigokgechcaiaa.QDg Go.Proofs.Ytoigokgechcaiaa.QUt Go.Proofs.Ytoigokgechcaiaa.Hand Go.Proofs.YtoigokgechcaiaaW.PrintWords Go.Proofs.YtoigokgechcaiaaW.PrintLast Go.Proofs.Ytoigokgechcaiaa.Dig

theorem rd_last0 (l m : List Int) (x : Int) : rd (l ++ x :: m) (l.length : Int) = x := by
  rw [rd_nat, List.getD_eq_getElem?_getD]; simp
/-- The package's loop over digits, in bytes behind which a nought and others stand. -/
theorem Parse_m (l m : List Int) (hb : Bytes l) (hl : l.length + m.length + 1 < 140737488355328) (s : Nat) : ∀ d i k, i + d = l.length → s ≤ i → d < k →
    gojsonnum_ParseDigits.l0 k (l ++ 0 :: m) (i : Int) (s : Int) ((val 0 (cut l s i) % 18446744073709551616 : Nat) : Int) = some (((val 0 (cut l s (runEnd l d i)) % 18446744073709551616 : Nat) : Int), ((runEnd l d i : Nat) : Int), ((runEnd l d i - s : Nat) : Int)) := by
  intro d
  induction d with
  | zero =>
    intro i k hi hs hk
    obtain ⟨k, rfl⟩ : ∃ m, k = m + 1 := ⟨k - 1, by omega⟩
    have hil : i = l.length := by omega
    simp only [gojsonnum_ParseDigits.l0]
    rw [if_pos (by omega), if_pos (by rw [List.length_append]; simp; omega), hil, rd_last0, if_pos (by decide)]
    simp only [runEnd]
    rw [show wrap64 ((l.length : Int) - (s : Int)) = ((l.length - s : Nat) : Int) from by unfold wrap64; omega]
  | succ d ih =>
    intro i k hi hs hk
    obtain ⟨k, rfl⟩ : ∃ m, k = m + 1 := ⟨k - 1, by omega⟩
    simp only [gojsonnum_ParseDigits.l0]
    rw [if_pos (by omega), if_pos (by rw [List.length_append]; simp; omega), rd_app l _ i (by omega)]
    have hm := rd_mem hb i
    have hcs := cut_snoc l s i hs (by omega)
    have hre : runEnd l (d + 1) i = if isD (rd l (i : Int)) then runEnd l d (i + 1) else i := rfl
    rw [hre]
    generalize rd l (i : Int) = c at *
    by_cases h : isD c = true
    · have h' := h
      simp only [isD, decide_eq_true_eq] at h'
      rw [if_neg (by omega), if_pos h, wrap_succ i l.length (by omega) (by omega)]
      have e : IntKind.u64.wrap (IntKind.u64.wrap (((val 0 (cut l s i) % 18446744073709551616 : Nat) : Int) * 10) + (c - 48) % 256) = ((val 0 (cut l s (i + 1)) % 18446744073709551616 : Nat) : Int) := by
        rw [hcs, val_app]
        simp only [val]
        rw [show ∀ z, IntKind.u64.wrap z = z % 18446744073709551616 from fun z => by simp [IntKind.wrap, IntKind.bits, IntKind.signed], show ∀ z, IntKind.u64.wrap z = z % 18446744073709551616 from fun z => by simp [IntKind.wrap, IntKind.bits, IntKind.signed]]
        omega
      rw [e]
      exact ih (i + 1) k (by omega) (by omega) (by omega)
    · have h' := h
      simp only [isD, decide_eq_true_eq] at h'
      rw [if_pos (by omega), if_neg h]
      rw [show wrap64 ((i : Int) - (s : Int)) = ((i - s : Nat) : Int) from by unfold wrap64; omega]
theorem Parse_g (l m : List Int) (hb : Bytes l) (hl : l.length + m.length + 1 < 140737488355328) (h1 : 0 < l.length) (k : Nat) (hk : l.length < k) :
    gojsonnum_ParseDigits.f k (l ++ 0 :: m) 0 = some (((val 0 (cut l 0 (run8 l 0)) % 18446744073709551616 : Nat) : Int), ((run8 l 0 : Nat) : Int), ((run8 l 0 : Nat) : Int)) := by
  unfold gojsonnum_ParseDigits.f
  have hr : rd (l ++ 0 :: m) 0 = rd l 0 := rd_app l _ 0 h1
  rw [if_pos (by omega), if_pos (by rw [List.length_append]; simp; omega), hr]
  unfold run8
  by_cases h0 : rd l 0 = 48
  · have hcs := cut_snoc l 0 0 (Nat.le_refl _) h1
    rw [if_pos h0, if_pos ⟨h1, h0⟩, show wrap64 (0 + 1) = ((0 + 1 : Nat) : Int) from by unfold wrap64; rfl, hcs, cut_self, show rd l ((0 : Nat) : Int) = 48 from h0]
    rfl
  · rw [if_neg h0, if_neg (fun h => h0 h.2)]
    have := Parse_m l m hb hl 0 l.length 0 k (by omega) (Nat.le_refl _) hk
    rw [cut_self] at this
    exact this
/-- A number whose first digit is not 0 is at least its power of ten. -/
theorem val_lb : ∀ (l : List Int) (n m : Nat), 10 ^ m ≤ n → 10 ^ (m + l.length) ≤ val n l := by
  intro l
  induction l with
  | nil => intro n m h; exact h
  | cons c r ih =>
    intro n m h
    have := ih (n * 10 + ((c - 48) % 256).toNat) (m + 1) (by rw [Nat.pow_succ]; omega)
    simpa [val, Nat.add_assoc, Nat.add_comm 1] using this
theorem cut_all (l : List Int) : cut l 0 l.length = l := by unfold cut; simp
theorem pad_cons (l : List Int) (h : l.length ≤ 20) : pad l = l ++ 0 :: List.replicate (20 - l.length) 0 := by
  unfold pad
  rw [show 21 - l.length = (20 - l.length) + 1 by omega]
  rfl
/-- What ParseUint tells of at least one byte. -/
theorem uint_f (l : List Int) (hb : Bytes l) (h1 : 0 < l.length) (h1000 : l.length ≤ 1000) (k : Nat) (hk : 1020 < k) :
    ∃ n ok, uint.f k l = some (n, ok) ∧ (run8 l 0 ≠ l.length → ok = false) ∧ (run8 l 0 = l.length → (n, ok) = fit (val 0 l) ∨ ok = false ∧ (fit (val 0 l)).2 = false) := by
  have hall : run8 l 0 = l.length → ∀ j : Nat, j < l.length → isD (rd l (j : Int)) = true := fun h j hj => run8_digit l 0 j (by omega) (by omega)
  unfold uint.f
  by_cases h20 : 20 < l.length
  · rw [if_pos (.inr h20)]
    refine ⟨0, false, rfl, fun _ => rfl, fun h => .inr ⟨rfl, ?_⟩⟩
    obtain ⟨c, r, rfl⟩ : ∃ c r, l = c :: r := by
      match l, h1 with
      | c :: r, _ => exact ⟨c, r, rfl⟩
    have h48 : c ≠ 48 := fun hc => by
      unfold run8 at h
      rw [if_pos ⟨by simp, by rw [hc]; rfl⟩] at h
      omega
    have hd := hall h 0 (by simp)
    have hd' : 48 ≤ c ∧ c ≤ 57 := (by simpa [isD, rd] using hd)
    have hlb := val_lb r (0 * 10 + ((c - 48) % 256).toNat) 0 (by omega)
    have hv : val 0 (c :: r) = val (0 * 10 + ((c - 48) % 256).toNat) r := rfl
    have hp : 10 ^ 20 ≤ 10 ^ (0 + r.length) := Nat.pow_le_pow_right (by decide) (by simp at h20; omega)
    have hb20 : (100000000000000000000 : Nat) = 10 ^ 20 := by decide
    unfold fit
    rw [if_neg (by rw [hv]; omega)]
  · have hpl := pad_cons l (by omega)
    rw [if_neg (by omega), hpl, Parse_g l _ hb (by simp; omega) h1 k (by omega), Option.bind_some]
    by_cases hr : run8 l 0 = l.length
    · rw [if_pos (show ((run8 l 0 : Nat) : Int) = (l.length : Int) by omega)]
      have hcut : cut l 0 (run8 l 0) = l := by rw [hr, cut_all]
      by_cases hd : ((run8 l 0 : Nat) : Int) = 20
      · have h20' : l.length = 20 := by omega
        have ht := twenty_l l (0 :: List.replicate (20 - l.length) 0) 0 (by omega) (by simp; omega) (fun j _ hj => hall hr j (by omega)) 19 0 k rfl (by omega)
        rw [show (0 : Nat) + 0 = 0 from rfl, cut_self] at ht
        have ht' : gojsonnum_TwentyDigits.f k (l ++ 0 :: List.replicate (20 - l.length) 0) 0 = some (fit (val 0 (cut l 0 (0 + 20)))) := ht
        rw [if_pos hd, ht', show (0 + 20 : Nat) = l.length by omega, cut_all]
        exact ⟨_, _, rfl, fun h => absurd hr h, fun _ => .inl rfl⟩
      · rw [if_neg hd, hcut]
        have hv := val_lt l (fun c hc => by
          obtain ⟨j, hj, rfl⟩ := List.getElem_of_mem hc
          have := hall hr j hj
          rwa [rd_nat, List.getD_eq_getElem?_getD, List.getElem?_eq_getElem hj] at this) 0 0 (by decide)
        have h10 : 10 ^ (0 + l.length) ≤ 10 ^ 19 := Nat.pow_le_pow_right (by decide) (by omega)
        have h64 : val 0 l < 18446744073709551616 := Nat.lt_of_lt_of_le (Nat.lt_of_lt_of_le hv h10) (by decide)
        refine ⟨_, _, rfl, fun h => absurd hr h, fun _ => .inl ?_⟩
        unfold fit
        rw [if_pos h64, Nat.mod_eq_of_lt h64]
    · rw [if_neg (show ¬ ((run8 l 0 : Nat) : Int) = (l.length : Int) by omega)]
      exact ⟨0, false, rfl, fun _ => rfl, fun h => absurd h hr⟩
theorem FnUint : laws_FnUint.Pure := by
  intro l h1 h2 hw
  obtain ⟨K, hK⟩ : ∃ K, K = 2000 := ⟨_, rfl⟩
  refine ⟨K, ?_⟩
  unfold laws_FnUint.f
  by_cases c1 : (l.length : Int) > 2147483647
  · rw [if_pos c1]
  rw [if_neg c1]
  by_cases c2 : (l.length : Int) > 1000
  · rw [if_pos c2]
  rw [if_neg c2]
  have hb := bytes_of l hw
  unfold impl_Uint.f
  by_cases c3 : l.length = 0
  · have hu : uint.f K l = some (0, false) := by unfold uint.f; rw [if_pos (.inl c3)]
    rw [hu, Option.bind_some, Option.bind_some, if_pos (by omega)]
    rfl
  · obtain ⟨n, ok, hu, hne, heq⟩ := uint_f l hb (by omega) (by omega) K (by omega)
    have hr8 : spec_Run8.f K l 0 = some ((run8 l 0 : Nat) : Int) := run8_f l (by omega) 0 K (by omega) (by omega)
    rw [hu, Option.bind_some, Option.bind_some, if_neg (by omega), hr8, Option.bind_some]
    by_cases hr : run8 l 0 = l.length
    · rw [if_pos (by omega), Value8_f l (by omega) K (by omega), Option.bind_some]
      rcases heq hr with h | ⟨h3, h4⟩
      · rw [← h, if_pos (by simp)]
        cases ok with
        | true => rw [if_pos rfl]; simp
        | false => rfl
      · rw [h3, h4]; rfl
    · rw [if_neg (by omega), hne hr]; rfl
end Go.Proofs.Ytoigokgechcaiaa.Pure
