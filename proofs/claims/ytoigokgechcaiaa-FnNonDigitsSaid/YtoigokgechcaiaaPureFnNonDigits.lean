/- Just the bytes of a word that are no digits have their top bits in the answer: for every word, no condition. -/
import Derived.Test.YtoigokgechcaiaaPFnNonDigitsx1
import Derived.Test.YtoigokgechcaiaaWord
namespace Go.Proofs.Ytoigokgechcaiaa.Pure
open Go.RowKit Go.Proofs.Ytoigokgechcaiaa.PFnNonDigits Go.Proofs.YtoigokgechcaiaaW.PrintWords Go.Proofs.YtoigokgechcaiaaW.PrintLast Go.Proofs.YtoigokgechcaiaaW.PrintMore Go.Proofs.Ytoigokgechcaiaa.Swar
/-- What is told of a byte. -/
def nd (b : Nat) : Nat := if 48 ≤ b ∧ b ≤ 57 then 0 else 128
theorem nd_tops (b : Nat) (h : b < 256) : ((((b &&& (255 - 128)) + 70) ||| b) &&& 128) ||| (128 &&& (255 - ((b ||| 128) - 48))) = nd b := by
  have : ∀ b : Fin 256, ((((b.1 &&& (255 - 128)) + 70) ||| b.1) &&& 128) ||| (128 &&& (255 - ((b.1 ||| 128) - 48))) = nd b.1 := by decide +kernel
  exact this ⟨b, h⟩
theorem bf_of (f : Nat → Nat) (h : ∀ b : Fin 256, f b.1 < 256) : Bf f := fun b hb => h ⟨b, hb⟩

theorem top48 : ∀ b : Fin 256, 48 ≤ b.1 ||| 128 := by decide +kernel
theorem nonDigit (l : List Nat) (hl : l.length = 8) (h : Bs l) : gojsonnum_NonDigitTops.f (hw l) = some ((hw (l.map nd) : Nat) : Int) := by
  have e0 : hw l = hw (l.map fun b => b) := by simp
  have cT : (9259542123273814144 : Int) = (hw (l.map fun _ => 128) : Nat) := by rw [w_const l hl]; rfl
  have cA : (5063812098665367110 : Int) = (hw (l.map fun _ => 70) : Nat) := by rw [w_const l hl]; rfl
  have cB : (3472328296227680304 : Int) = (hw (l.map fun _ => 48) : Nat) := by rw [w_const l hl]; rfl
  have bid : Bf fun b => b := fun b hb => hb
  have b128 : Bf fun _ => 128 := fun _ _ => (by decide : (128 : Nat) < 256)
  have b70 : Bf fun _ => 70 := fun _ _ => (by decide : (70 : Nat) < 256)
  have b48 : Bf fun _ => 48 := fun _ _ => (by decide : (48 : Nat) < 256)
  unfold gojsonnum_NonDigitTops.f
  rw [cT, cA, cB, e0]
  rw [w_andNot l hl h _ _ bid b128, w_add l hl h _ _ (bf_of _ (by decide +kernel)), w_or l hl h _ _ (bf_of _ (by decide +kernel)) bid, w_and l hl h _ _ (bf_of _ (by decide +kernel)) b128,
    w_or l hl h _ _ bid b128, w_sub l hl h _ _ (bf_of _ (by decide +kernel)) (fun b hb => top48 ⟨b, hb⟩),
    w_andNot l hl h _ _ b128 (bf_of _ (by decide +kernel)), w_or l hl h _ _ (bf_of _ (by decide +kernel)) (bf_of _ (by decide +kernel)),
    hw_map_congr l _ nd nd_tops h]

theorem take_succ_map (l : List Nat) (f : Nat → Nat) (i : Nat) (h : i < l.length) : hw ((l.take (i + 1)).map f) = hw ((l.take i).map f) + 256 ^ i * f (l.getD i 0) := by
  rw [List.take_succ_eq_append_getElem h, List.map_append, hw_append]
  simp [hw, List.getD_eq_getElem?_getD, h, Nat.min_eq_left (Nat.le_of_lt h)]

theorem round_nd (l : List Nat) (hl : l.length = 8) (h : Bs l) : ∀ d i k, i + d = 8 → d < k → laws_FnNonDigits.l0 k (hw l) (hw ((l.take i).map nd)) i = some true := by
  intro d
  induction d with
  | zero =>
    intro i k hi hk
    obtain ⟨k, rfl⟩ : ∃ m, k = m + 1 := ⟨k - 1, by omega⟩
    obtain rfl : i = 8 := by omega
    simp only [laws_FnNonDigits.l0]
    rw [if_neg (by decide), impl_NonDigits.f, nonDigit l hl h, List.take_of_length_le (by omega)]
    simp
  | succ d ih =>
    intro i k hi hk
    obtain ⟨k, rfl⟩ : ∃ m, k = m + 1 := ⟨k - 1, by omega⟩
    have hlt := lt64 l hl (fun b => b) (fun b hb => hb) h
    rw [show l.map (fun b => b) = l by simp] at hlt
    have hby : (by_ 8 (hw l)) = l := by
      have := h
      match l, hl, this with
      | [b0, b1, b2, b3, b4, b5, b6, b7], _, hB =>
        have := hB b0 (by simp); have := hB b1 (by simp); have := hB b2 (by simp); have := hB b3 (by simp); have := hB b4 (by simp); have := hB b5 (by simp); have := hB b6 (by simp); have := hB b7 (by simp)
        simp only [by_, hw]
        refine List.cons_eq_cons.2 ⟨by omega, List.cons_eq_cons.2 ⟨by omega, List.cons_eq_cons.2 ⟨by omega, List.cons_eq_cons.2 ⟨by omega, List.cons_eq_cons.2 ⟨by omega, List.cons_eq_cons.2 ⟨by omega, List.cons_eq_cons.2 ⟨by omega, List.cons_eq_cons.2 ⟨by omega, rfl⟩⟩⟩⟩⟩⟩⟩⟩
    have hb := shr_byte (hw l) hlt i (by omega)
    rw [hby] at hb
    have hx : hw ((l.take i).map nd) < 256 ^ i := by
      have := hw_map_lt (l.take i) nd (bf_of nd (by decide +kernel)) (fun x hx => h x (List.mem_of_mem_take hx))
      rwa [List.length_take, Nat.min_eq_left (by omega)] at this
    have hs := take_succ_map l nd i (by omega)
    simp only [laws_FnNonDigits.l0]
    rw [if_pos (by omega), w8 i (by omega), if_pos (by omega), hb, w1 i (by omega), or_top _ i (by omega) hx]
    have hn := ih (i + 1) k (by omega) (by omega)
    generalize l.getD i 0 = b at *
    unfold spec_IsDigit8.f spec_digit.f
    by_cases h1 : 48 ≤ b
    · by_cases h2 : b ≤ 57
      · rw [if_pos (by omega), decide_eq_true (by omega)]
        simp only [Option.bind_some, if_true]
        have : nd b = 0 := by unfold nd; rw [if_pos ⟨h1, h2⟩]
        rw [this] at hs
        simp only [Nat.mul_zero, Nat.add_zero] at hs
        rw [← hs]
        exact hn
      · rw [if_pos (by omega), decide_eq_false (by omega)]
        simp only [Option.bind_some]
        rw [if_neg (by decide)]
        have : nd b = 128 := by unfold nd; rw [if_neg (by omega)]
        rw [this] at hs
        rw [← hs]
        exact hn
    · rw [if_neg (by omega)]
      simp only [Option.bind_some]
      rw [if_neg (by decide)]
      have : nd b = 128 := by unfold nd; rw [if_neg (by omega)]
      rw [this] at hs
      rw [← hs]
      exact hn

theorem FnNonDigits : laws_FnNonDigits.Pure := by
  intro a0 h0
  obtain ⟨w, rfl, hw_⟩ := u64_nat a0 h0
  refine ⟨9, ?_⟩
  have := round_nd (by_ 8 w) (by_length 8 w) (by_bs 8 w) 8 0 9 rfl (by decide)
  rw [word_bytes w hw_] at this
  exact this

end Go.Proofs.Ytoigokgechcaiaa.Pure
