/- Words of 64 bits told by their bytes: what Go's operations on words do byte by byte; plain lemmas, no condition. -/
import Derived.Test.YtoigokgechcaiaaWMore
import Derived.Test.YtoigokgechcaiaaSwar
import Derived.Laws.BitsLemmas
import Derived.RowKit
namespace Go.Proofs.Ytoigokgechcaiaa.Swar
open Go.RowKit Go.Proofs.YtoigokgechcaiaaW.PrintWords Go.Proofs.YtoigokgechcaiaaW.PrintLast Go.Proofs.YtoigokgechcaiaaW.PrintMore
theorem w8 (i : Nat) (hi : i ≤ 8) : wrap64 (8 * (i : Int)) = 8 * (i : Int) := by unfold wrap64; omega
theorem w1 (i : Nat) (hi : i ≤ 8) : wrap64 ((i : Int) + 1) = ((i + 1 : Nat) : Int) := by unfold wrap64; omega
theorem u64_nat (a : Int) (h : (Lit.int .u64 a).wf = true) : ∃ n : Nat, a = n ∧ n < 18446744073709551616 := by
  have h1 : 0 ≤ a ∧ a ≤ 18446744073709551615 := by simpa [Lit.wf, IntKind.min, IntKind.max, IntKind.bits, IntKind.signed] using h
  exact ⟨a.toNat, by omega, by omega⟩
/-- Byte i of a word, as Go takes it. -/
theorem shr_byte (w : Nat) (hw_ : w < 18446744073709551616) (i : Nat) (hi : i < 8) : shr .u64 (w : Int) (8 * (i : Int)) % 256 = (((by_ 8 w).getD i 0 : Nat) : Int) := by
  have h1 : min (8 * (i : Int)).toNat IntKind.u64.bits = 8 * i := by simp [IntKind.bits]; omega
  have h2 := hw_byte (by_ 8 w) (by_bs 8 w) i (by simp [by_length, hi])
  rw [word_bytes w hw_] at h2
  have h3 : (2 : Nat) ^ (8 * i) = 256 ^ i := by rw [Nat.pow_mul]
  unfold shr
  rw [h1, ← h2]
  have : ((2 : Int) ^ (8 * i)) = ((256 ^ i : Nat) : Int) := by rw [← h3]; simp
  rw [this]
  simp
/-- A byte with its top bit beyond what is there. -/
theorem or_top (x : Nat) (i : Nat) (hi : i < 8) (hx : x < 256 ^ i) : Go.bits .or .u64 (x : Int) (shl .u64 128 (8 * (i : Int))) = ((x + 256 ^ i * 128 : Nat) : Int) := by
  have h1 : min (8 * (i : Int)).toNat IntKind.u64.bits = 8 * i := by simp [IntKind.bits]; omega
  have h3 : (2 : Nat) ^ (8 * i) = 256 ^ i := by rw [Nat.pow_mul]
  have hp : 256 ^ i ≤ 72057594037927936 := Nat.le_trans (Nat.pow_le_pow_right (by decide) (show i ≤ 7 by omega)) (by decide)
  have hs : shl .u64 128 (8 * (i : Int)) = ((256 ^ i * 128 : Nat) : Int) := by
    unfold shl
    rw [h1, IntKind.wrap_u64]
    have : ((2 : Int) ^ (8 * i)) = ((256 ^ i : Nat) : Int) := by rw [← h3]; simp
    rw [this]
    omega
  rw [hs, bits_or _ _ (by omega) (by omega)]
  have := Nat.two_pow_add_eq_or_of_lt (i := 8 * i) (b := x) (by rw [h3]; exact hx) 128
  rw [h3] at this
  rw [Nat.or_comm, ← this]
  omega

end Go.Proofs.Ytoigokgechcaiaa.Swar
