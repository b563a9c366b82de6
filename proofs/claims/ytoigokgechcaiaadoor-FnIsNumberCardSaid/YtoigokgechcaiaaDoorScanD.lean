/- The end of a run of digits, looked for by words of eight bytes, is the one looked for byte by byte; plain lemmas. -/
import Derived.Test.YtoigokgechcaiaaDoorRun
import Derived.Test.YtoigokgechcaiaaDoorSwar
import Derived.Test.YtoigokgechcaiaaDoorTz
import Derived.Lib.TrailingZeros
namespace Go.Proofs.YtoigokgechcaiaaDoor.Dig
open Go.RowKit Go.Proofs.YtoigokgechcaiaaDoorW.PrintWords Go.Proofs.YtoigokgechcaiaaDoorW.PrintLast Go.Proofs.YtoigokgechcaiaaDoorW.PrintMore Go.Proofs.YtoigokgechcaiaaDoor.Swar

/-! ### Words of bytes out of a list -/
/-- The n bytes from i on, as natural numbers. -/
def nb (l : List Int) : Nat → Nat → List Nat
  | 0, _ => []
  | n + 1, i => (rd l (i : Int)).toNat :: nb l n (i + 1)
theorem nb_length (l : List Int) : ∀ n i, (nb l n i).length = n := by
  intro n; induction n with
  | zero => intro i; rfl
  | succ n ih => intro i; simp [nb, ih]
theorem nb_bs (l : List Int) (h : Bytes l) : ∀ n i, Bs (nb l n i) := by
  intro n; induction n with
  | zero => intro i x hx; simp [nb] at hx
  | succ n ih =>
    intro i x hx
    simp only [nb, List.mem_cons] at hx
    rcases hx with rfl | hx
    · have := rd_mem h i; omega
    · exact ih _ x hx
theorem rd_drop (l : List Int) (i j : Nat) : rd (l.drop i) (j : Int) = rd l ((i + j : Nat) : Int) := by
  rw [rd_nat, rd_nat, List.getD_eq_getElem?_getD, List.getD_eq_getElem?_getD, List.getElem?_drop]
theorem or_place (x y n : Nat) (hn : n < 8) (hx : x < 256 ^ n) (hy : y < 256) : Go.bits .or .u64 (x : Int) ((y * 256 ^ n : Nat) : Int) = ((x + 256 ^ n * y : Nat) : Int) := by
  have h3 : (2 : Nat) ^ (8 * n) = 256 ^ n := by rw [Nat.pow_mul]
  have hp : 256 ^ n ≤ 72057594037927936 := Nat.le_trans (Nat.pow_le_pow_right (by decide) (show n ≤ 7 by omega)) (by decide)
  have hm : y * 256 ^ n ≤ 255 * 72057594037927936 := Nat.mul_le_mul (by omega) hp
  rw [bits_or _ _ (by omega) (by omega)]
  have := Nat.two_pow_add_eq_or_of_lt (i := 8 * n) (b := x) (by rw [h3]; exact hx) y
  rw [h3] at this
  rw [Nat.or_comm, Nat.mul_comm y, ← this]
  omega

/-- The first place of a list whose byte fails a test: its index, or the length. -/
def first (p : Nat → Bool) : List Nat → Nat
  | [] => 0
  | b :: r => if p b then 0 else 1 + first p r
theorem ctz_even (f x : Nat) : Lib.ctzFrom (f + 1) (2 * x) = 1 + Lib.ctzFrom f x := by
  show (if (2 * x) % 2 = 1 then 0 else 1 + Lib.ctzFrom f ((2 * x) / 2)) = _
  rw [if_neg (by omega), show (2 * x) / 2 = x by omega]
theorem ctz_odd (f x : Nat) : Lib.ctzFrom (f + 1) (2 * x + 1) = 0 := by
  show (if (2 * x + 1) % 2 = 1 then 0 else 1 + Lib.ctzFrom f ((2 * x + 1) / 2)) = _
  rw [if_pos (by omega)]
theorem ctz_256 (m x : Nat) : Lib.ctzFrom (m + 8) (0 + 256 * x) = 8 + Lib.ctzFrom m x := by
  have h := fun (f y : Nat) => ctz_even f y
  rw [show 0 + 256 * x = 2 * (2 * (2 * (2 * (2 * (2 * (2 * (2 * x))))))) by omega, show m + 8 = m + 7 + 1 from rfl, h, show m + 7 = m + 6 + 1 from rfl, h, show m + 6 = m + 5 + 1 from rfl, h, show m + 5 = m + 4 + 1 from rfl, h, show m + 4 = m + 3 + 1 from rfl, h, show m + 3 = m + 2 + 1 from rfl, h, show m + 2 = m + 1 + 1 from rfl, h, h]
  omega
theorem ctz_128 (m x : Nat) : Lib.ctzFrom (m + 8) (128 + 256 * x) = 7 := by
  have h := fun (f y : Nat) => ctz_even f y
  rw [show 128 + 256 * x = 2 * (2 * (2 * (2 * (2 * (2 * (2 * (2 * x + 1))))))) by omega, show m + 8 = m + 7 + 1 from rfl, h, show m + 7 = m + 6 + 1 from rfl, h, show m + 6 = m + 5 + 1 from rfl, h, show m + 5 = m + 4 + 1 from rfl, h, show m + 4 = m + 3 + 1 from rfl, h, show m + 3 = m + 2 + 1 from rfl, h, show m + 2 = m + 1 + 1 from rfl, h, ctz_odd]
/-- A word that has the top bits of just the bytes that pass a test (at least up to the first one). -/
theorem ctz_first (p : Nat → Bool) : ∀ (l : List Nat) (f : Nat → Nat), (∀ b, f b = if p b then 128 else 0) → hw (l.map f) ≠ 0 → ∀ n, 8 * l.length ≤ n → Lib.ctzFrom n (hw (l.map f)) / 8 = first p l := by
  intro l f hf
  induction l with
  | nil => intro h; simp [hw] at h
  | cons b r ih =>
    intro h n hn
    simp only [List.length_cons] at hn
    simp only [List.map_cons, hw] at h ⊢
    unfold first
    by_cases hp : p b = true
    · rw [if_pos hp]
      rw [hf b, if_pos hp]
      obtain ⟨m, rfl⟩ : ∃ m, n = m + 8 := ⟨n - 8, by omega⟩
      have e : Lib.ctzFrom (m + 8) (128 + 256 * hw (r.map f)) = 7 := ctz_128 m _
      rw [e]
    · rw [if_neg hp]
      have h0 : f b = 0 := by rw [hf b, if_neg hp]
      rw [h0] at h ⊢
      have hr : hw (r.map f) ≠ 0 := by omega
      obtain ⟨m, rfl⟩ : ∃ m, n = m + 8 := ⟨n - 8, by omega⟩
      have e : Lib.ctzFrom (m + 8) (0 + 256 * hw (r.map f)) = 8 + Lib.ctzFrom m (hw (r.map f)) := ctz_256 m _
      rw [e]
      have := ih hr m (by omega)
      omega
theorem hw_zero (p : Nat → Bool) (l : List Nat) (f : Nat → Nat) (hf : ∀ b, f b = if p b then 128 else 0) (h : hw (l.map f) = 0) : first p l = l.length := by
  induction l with
  | nil => rfl
  | cons b r ih =>
    simp only [List.map_cons, hw] at h
    have hb : f b = 0 := by omega
    have hp : ¬ p b = true := fun hp => by rw [hf b, if_pos hp] at hb; omega
    unfold first
    rw [if_neg hp, ih (by omega), List.length_cons]
    omega
theorem first_le (p : Nat → Bool) (l : List Nat) : first p l ≤ l.length := by
  induction l with
  | nil => exact Nat.le_refl _
  | cons b r ih => unfold first; split <;> simp <;> omega
end Go.Proofs.YtoigokgechcaiaaDoor.Dig
