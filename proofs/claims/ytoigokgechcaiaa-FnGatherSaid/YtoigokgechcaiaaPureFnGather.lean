/- The top bit of each byte of a word without other bits comes to the bit with its number: for every word, no condition. -/
import Derived.Test.YtoigokgechcaiaaPFnGatherx1
import Derived.Test.YtoigokgechcaiaaWord
namespace Go.Proofs.Ytoigokgechcaiaa.Pure
open Go.RowKit Go.Proofs.Ytoigokgechcaiaa.PFnGather Go.Proofs.YtoigokgechcaiaaW.PrintWords Go.Proofs.YtoigokgechcaiaaW.PrintLast Go.Proofs.YtoigokgechcaiaaW.PrintMore Go.Proofs.Ytoigokgechcaiaa.Swar
/-- The bits of bytes that are 0 or 128. -/
def hb : List Nat → Nat
  | [] => 0
  | b :: r => b / 128 + 2 * hb r
def Tops (l : List Nat) : Prop := ∀ x ∈ l, x = 0 ∨ x = 128
theorem hb_append (a c : List Nat) : hb (a ++ c) = hb a + 2 ^ a.length * hb c := by
  induction a with
  | nil => simp [hb]
  | cons b r ih => simp only [List.cons_append, hb, List.length_cons, Nat.pow_succ, ih]; grind
theorem hb_lt (l : List Nat) (h : Tops l) : hb l < 2 ^ l.length := by
  induction l with
  | nil => simp [hb]
  | cons b r ih =>
    have := ih (fun x hx => h x (by simp [hx]))
    have hb_ := h b (by simp)
    simp only [hb, List.length_cons, Nat.pow_succ]
    omega
def spread (n : Nat) : List Nat := [128 * (n % 2), 128 * (n / 2 % 2), 128 * (n / 4 % 2), 128 * (n / 8 % 2), 128 * (n / 16 % 2), 128 * (n / 32 % 2), 128 * (n / 64 % 2), 128 * (n / 128 % 2)]
theorem tops_bit {l : List Nat} (h : Tops l) {x : Nat} (hx : x ∈ l) : ∃ c, x = 128 * c ∧ c < 2 := by
  rcases h x hx with rfl | rfl
  · exact ⟨0, rfl, by decide⟩
  · exact ⟨1, rfl, by decide⟩
theorem spread_hb (l : List Nat) (hl : l.length = 8) (h : Tops l) : spread (hb l) = l := by
  match l, hl, h with
  | [b0, b1, b2, b3, b4, b5, b6, b7], _, hB =>
    obtain ⟨c0, rfl, h0⟩ := tops_bit hB (x := b0) (by simp)
    obtain ⟨c1, rfl, h1⟩ := tops_bit hB (x := b1) (by simp)
    obtain ⟨c2, rfl, h2⟩ := tops_bit hB (x := b2) (by simp)
    obtain ⟨c3, rfl, h3⟩ := tops_bit hB (x := b3) (by simp)
    obtain ⟨c4, rfl, h4⟩ := tops_bit hB (x := b4) (by simp)
    obtain ⟨c5, rfl, h5⟩ := tops_bit hB (x := b5) (by simp)
    obtain ⟨c6, rfl, h6⟩ := tops_bit hB (x := b6) (by simp)
    obtain ⟨c7, rfl, h7⟩ := tops_bit hB (x := b7) (by simp)
    simp only [spread, hb]
    refine List.cons_eq_cons.2 ⟨by omega, List.cons_eq_cons.2 ⟨by omega, List.cons_eq_cons.2 ⟨by omega, List.cons_eq_cons.2 ⟨by omega, List.cons_eq_cons.2 ⟨by omega, List.cons_eq_cons.2 ⟨by omega, List.cons_eq_cons.2 ⟨by omega, List.cons_eq_cons.2 ⟨by omega, rfl⟩⟩⟩⟩⟩⟩⟩⟩
theorem gather_fin : ∀ n : Fin 256, hw (spread n.1) / 128 * 72624976668147840 % 18446744073709551616 / 72057594037927936 % 256 = n.1 := by decide +kernel
theorem gather_tops (l : List Nat) (hl : l.length = 8) (h : Tops l) : gojsonnum_GatherTops.f (hw l) = some ((hb l : Nat) : Int) := by
  have h1 := hb_lt l h
  rw [hl] at h1
  have h2 := gather_fin ⟨hb l, h1⟩
  simp only [spread_hb l hl h] at h2
  unfold gojsonnum_GatherTops.f
  rw [IntKind.wrap_u64, ← h2]
  simp
theorem or_one (x i : Nat) (hi : i < 8) (hx : x < 2 ^ i) : Go.bits .or .u8 (x : Int) (shl .u8 1 i) = ((x + 2 ^ i : Nat) : Int) := by
  have h1 : min (i : Int).toNat IntKind.u8.bits = i := by simp [IntKind.bits]; omega
  have hp : 2 ^ i ≤ 128 := Nat.le_trans (Nat.pow_le_pow_right (by decide) (show i ≤ 7 by omega)) (by decide)
  have hs : shl .u8 1 i = ((2 ^ i : Nat) : Int) := by
    unfold shl
    rw [h1, IntKind.wrap_u8]
    have : ((2 : Int) ^ i) = ((2 ^ i : Nat) : Int) := by simp
    rw [this]
    omega
  rw [hs, (bits_nat .u8 8 (by decide) (fun n h0 h1 => wraps_u8 n h0 h1) x (2 ^ i) (by omega) (by omega)).2]
  have := Nat.two_pow_add_eq_or_of_lt (i := i) (b := x) hx 1
  rw [Nat.mul_one] at this
  rw [Nat.or_comm, ← this]
  omega
theorem by_hw (l : List Nat) (hl : l.length = 8) (h : Bs l) : by_ 8 (hw l) = l := by
  match l, hl, h with
  | [b0, b1, b2, b3, b4, b5, b6, b7], _, hB =>
    have := hB b0 (by simp); have := hB b1 (by simp); have := hB b2 (by simp); have := hB b3 (by simp); have := hB b4 (by simp); have := hB b5 (by simp); have := hB b6 (by simp); have := hB b7 (by simp)
    simp only [by_, hw]
    refine List.cons_eq_cons.2 ⟨by omega, List.cons_eq_cons.2 ⟨by omega, List.cons_eq_cons.2 ⟨by omega, List.cons_eq_cons.2 ⟨by omega, List.cons_eq_cons.2 ⟨by omega, List.cons_eq_cons.2 ⟨by omega, List.cons_eq_cons.2 ⟨by omega, List.cons_eq_cons.2 ⟨by omega, rfl⟩⟩⟩⟩⟩⟩⟩⟩
theorem round_ga (l : List Nat) (hl : l.length = 8) (h : Bs l) : ∀ d i k, i + d = 8 → d < k → Tops (l.take i) → laws_FnGather.l0 k (hw l) (hb (l.take i)) i = some true := by
  intro d
  induction d with
  | zero =>
    intro i k hi hk ht
    obtain ⟨k, rfl⟩ : ∃ m, k = m + 1 := ⟨k - 1, by omega⟩
    obtain rfl : i = 8 := by omega
    rw [List.take_of_length_le (by omega)] at ht ⊢
    simp only [laws_FnGather.l0]
    rw [if_neg (by decide), impl_Gather.f, gather_tops l hl ht]
    simp
  | succ d ih =>
    intro i k hi hk ht
    obtain ⟨k, rfl⟩ : ∃ m, k = m + 1 := ⟨k - 1, by omega⟩
    have hlt := lt64 l hl (fun b => b) (fun b hb => hb) h
    rw [show l.map (fun b => b) = l by simp] at hlt
    have hb_ := shr_byte (hw l) hlt i (by omega)
    rw [by_hw l hl h] at hb_
    have hx := hb_lt _ ht
    rw [List.length_take, Nat.min_eq_left (by omega)] at hx
    have htk : l.take (i + 1) = l.take i ++ [l.getD i 0] := by
      rw [List.take_succ_eq_append_getElem (by omega)]; simp [List.getD_eq_getElem?_getD, hl, show i < 8 by omega]
    have hs : hb (l.take (i + 1)) = hb (l.take i) + 2 ^ i * (l.getD i 0 / 128) := by
      rw [htk, hb_append]; simp [hb, Nat.min_eq_left (show i ≤ l.length by omega)]
    simp only [laws_FnGather.l0]
    rw [if_pos (by omega), w8 i (by omega), if_pos (by omega), hb_, w1 i (by omega)]
    have hn := ih (i + 1) k (by omega) (by omega)
    rw [htk] at hn
    rw [htk] at hs
    generalize l.getD i 0 = b at *
    by_cases h0 : b = 0
    · subst h0
      rw [if_pos (by decide)]
      rw [hs] at hn
      simpa using hn (by intro x hx; simp only [List.mem_append, List.mem_singleton] at hx; rcases hx with hx | hx; exact ht x hx; exact .inl hx)
    · rw [if_neg (by omega)]
      by_cases h1 : b = 128
      · subst h1
        rw [if_pos (by decide), if_pos (by omega), or_one _ i (by omega) hx]
        rw [hs] at hn
        simpa using hn (by intro x hx; simp only [List.mem_append, List.mem_singleton] at hx; rcases hx with hx | hx; exact ht x hx; exact .inr hx)
      · rw [if_neg (by omega)]
theorem FnGather : laws_FnGather.Pure := by
  intro a0 h0
  obtain ⟨w, rfl, hw_⟩ := u64_nat a0 h0
  refine ⟨9, ?_⟩
  have := round_ga (by_ 8 w) (by_length 8 w) (by_bs 8 w) 8 0 9 rfl (by decide) (by intro x hx; simp at hx)
  rw [word_bytes w hw_] at this
  exact this
end Go.Proofs.Ytoigokgechcaiaa.Pure
