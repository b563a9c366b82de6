/- What the package's loop over runs of digits comes to, by words and bytes: the end of the run; plain lemmas over the printed functions. -/
import Derived.Test.YtoigokgechcaiaaDoorScanD
import Derived.Test.YtoigokgechcaiaaDoorQNm1
namespace Go.Proofs.YtoigokgechcaiaaDoor.Dig
open Go.RowKit Go.Proofs.YtoigokgechcaiaaDoor.QNm Go.Proofs.YtoigokgechcaiaaDoorW.PrintWords Go.Proofs.YtoigokgechcaiaaDoorW.PrintLast Go.Proofs.YtoigokgechcaiaaDoorW.PrintMore Go.Proofs.YtoigokgechcaiaaDoor.Swar Go.Proofs.YtoigokgechcaiaaDoor.Tab

theorem wrapu (n : Nat) (h : n < 18446744073709551616) : IntKind.u64.wrap (n : Int) = (n : Int) := by rw [IntKind.wrap_u64]; omega
theorem or8 (b0 b1 b2 b3 b4 b5 b6 b7 : Nat) (h0 : b0 < 256) (h1 : b1 < 256) (h2 : b2 < 256) (h3 : b3 < 256) (h4 : b4 < 256) (h5 : b5 < 256) (h6 : b6 < 256) (h7 : b7 < 256) :
    Go.bits .or .u64 (Go.bits .or .u64 (Go.bits .or .u64 (Go.bits .or .u64 (Go.bits .or .u64 (Go.bits .or .u64 (Go.bits .or .u64 (b0 : Int) ((b1 * 256 ^ 1 : Nat) : Int)) ((b2 * 256 ^ 2 : Nat) : Int)) ((b3 * 256 ^ 3 : Nat) : Int)) ((b4 * 256 ^ 4 : Nat) : Int)) ((b5 * 256 ^ 5 : Nat) : Int)) ((b6 * 256 ^ 6 : Nat) : Int)) ((b7 * 256 ^ 7 : Nat) : Int)
      = ((hw [b0, b1, b2, b3, b4, b5, b6, b7] : Nat) : Int) := by
  rw [or_place b0 b1 1 (by decide) (by omega) h1, or_place (b0 + 256 ^ 1 * b1) b2 2 (by decide) (by omega) h2, or_place (b0 + 256 ^ 1 * b1 + 256 ^ 2 * b2) b3 3 (by decide) (by omega) h3,
    or_place (b0 + 256 ^ 1 * b1 + 256 ^ 2 * b2 + 256 ^ 3 * b3) b4 4 (by decide) (by omega) h4, or_place (b0 + 256 ^ 1 * b1 + 256 ^ 2 * b2 + 256 ^ 3 * b3 + 256 ^ 4 * b4) b5 5 (by decide) (by omega) h5,
    or_place (b0 + 256 ^ 1 * b1 + 256 ^ 2 * b2 + 256 ^ 3 * b3 + 256 ^ 4 * b4 + 256 ^ 5 * b5) b6 6 (by decide) (by omega) h6, or_place (b0 + 256 ^ 1 * b1 + 256 ^ 2 * b2 + 256 ^ 3 * b3 + 256 ^ 4 * b4 + 256 ^ 5 * b5 + 256 ^ 6 * b6) b7 7 (by decide) (by omega) h7]
  congr 1
  simp only [hw]
  omega
theorem rd_byte (l : List Int) (hb : Bytes l) (i : Nat) : ∃ n : Nat, rd l (i : Int) = (n : Int) ∧ n < 256 ∧ (rd l (i : Int)).toNat = n := by
  have := rd_mem hb i
  exact ⟨(rd l (i : Int)).toNat, by omega, by omega, rfl⟩
theorem le64_f (l : List Int) (hb : Bytes l) (i : Nat) (h : i + 8 ≤ l.length) : gojsonnum_le64.f (l.drop i) = some ((hw (nb l 8 i) : Nat) : Int) := by
  obtain ⟨b0, e0, h0, f0⟩ := rd_byte l hb (i + 0)
  obtain ⟨b1, e1, h1, f1⟩ := rd_byte l hb (i + 1)
  obtain ⟨b2, e2, h2, f2⟩ := rd_byte l hb (i + 2)
  obtain ⟨b3, e3, h3, f3⟩ := rd_byte l hb (i + 3)
  obtain ⟨b4, e4, h4, f4⟩ := rd_byte l hb (i + 4)
  obtain ⟨b5, e5, h5, f5⟩ := rd_byte l hb (i + 5)
  obtain ⟨b6, e6, h6, f6⟩ := rd_byte l hb (i + 6)
  obtain ⟨b7, e7, h7, f7⟩ := rd_byte l hb (i + 7)
  have hl : ((l.drop i).length : Int) = (l.length : Int) - i := by rw [List.length_drop]; omega
  have hn : nb l 8 i = [b0, b1, b2, b3, b4, b5, b6, b7] := by
    simp only [nb]
    rw [show i + 1 + 1 + 1 + 1 + 1 + 1 + 1 = i + 7 from rfl, show i + 1 + 1 + 1 + 1 + 1 + 1 = i + 6 from rfl, show i + 1 + 1 + 1 + 1 + 1 = i + 5 from rfl, show i + 1 + 1 + 1 + 1 = i + 4 from rfl, show i + 1 + 1 + 1 = i + 3 from rfl, show i + 1 + 1 = i + 2 from rfl, f1, f2, f3, f4, f5, f6, f7]
    rw [show (i : Int) = ((i + 0 : Nat) : Int) from rfl, f0]
  unfold gojsonnum_le64.f
  rw [hl, if_pos (by omega), if_pos (by omega), if_pos (by omega), if_pos (by omega), if_pos (by omega), if_pos (by omega), if_pos (by omega), if_pos (by omega)]
  have r := rd_drop l i
  have r0 := r 0; have r1 := r 1; have r2 := r 2; have r3 := r 3; have r4 := r 4; have r5 := r 5; have r6 := r 6; have r7 := r 7
  rw [e0] at r0; rw [e1] at r1; rw [e2] at r2; rw [e3] at r3; rw [e4] at r4; rw [e5] at r5; rw [e6] at r6; rw [e7] at r7
  rw [show rd (l.drop i) 0 = (b0 : Int) from r0, show rd (l.drop i) 1 = (b1 : Int) from r1, show rd (l.drop i) 2 = (b2 : Int) from r2, show rd (l.drop i) 3 = (b3 : Int) from r3, show rd (l.drop i) 4 = (b4 : Int) from r4, show rd (l.drop i) 5 = (b5 : Int) from r5, show rd (l.drop i) 6 = (b6 : Int) from r6, show rd (l.drop i) 7 = (b7 : Int) from r7]
  rw [wrapu b0 (by omega), wrapu b1 (by omega), wrapu b2 (by omega), wrapu b3 (by omega), wrapu b4 (by omega), wrapu b5 (by omega), wrapu b6 (by omega), wrapu b7 (by omega)]
  rw [show IntKind.u64.wrap ((b1 : Int) * 256) = ((b1 * 256 ^ 1 : Nat) : Int) from by rw [IntKind.wrap_u64]; omega, show IntKind.u64.wrap ((b2 : Int) * 65536) = ((b2 * 256 ^ 2 : Nat) : Int) from by rw [IntKind.wrap_u64]; omega,
    show IntKind.u64.wrap ((b3 : Int) * 16777216) = ((b3 * 256 ^ 3 : Nat) : Int) from by rw [IntKind.wrap_u64]; omega, show IntKind.u64.wrap ((b4 : Int) * 4294967296) = ((b4 * 256 ^ 4 : Nat) : Int) from by rw [IntKind.wrap_u64]; omega,
    show IntKind.u64.wrap ((b5 : Int) * 1099511627776) = ((b5 * 256 ^ 5 : Nat) : Int) from by rw [IntKind.wrap_u64]; omega, show IntKind.u64.wrap ((b6 : Int) * 281474976710656) = ((b6 * 256 ^ 6 : Nat) : Int) from by rw [IntKind.wrap_u64]; omega,
    show IntKind.u64.wrap ((b7 : Int) * 72057594037927936) = ((b7 * 256 ^ 7 : Nat) : Int) from by rw [IntKind.wrap_u64]; omega]
  rw [or8 b0 b1 b2 b3 b4 b5 b6 b7 h0 h1 h2 h3 h4 h5 h6 h7, hn]

/-- The byte's top bit, if it is no digit. -/
def pnd (b : Nat) : Bool := !(decide (48 ≤ b ∧ b ≤ 57))
def nd (b : Nat) : Nat := if pnd b then 128 else 0
theorem bf_of (f : Nat → Nat) (h : ∀ b : Fin 256, f b.1 < 256) : Bf f := fun b hb => h ⟨b, hb⟩
theorem nd_bytes : ∀ b : Fin 256, ((((b.1 ^^^ 48) &&& (255 - 128)) + 118) ||| (b.1 ^^^ 48)) &&& 128 = nd b.1 := by decide +kernel
theorem nd_word (l : List Nat) (hl : l.length = 8) (h : Bs l) :
    Go.bits .and .u64 (Go.bits .or .u64 (IntKind.u64.wrap ((Go.bits .andNot .u64 (Go.bits .xor .u64 ((hw l : Nat) : Int) 3472328296227680304) 9259542123273814144) + 8536140394893047414)) (Go.bits .xor .u64 ((hw l : Nat) : Int) 3472328296227680304)) 9259542123273814144 = ((hw (l.map nd) : Nat) : Int) := by
  have e0 : hw l = hw (l.map fun b => b) := by simp
  have cT : (9259542123273814144 : Int) = (hw (l.map fun _ => 128) : Nat) := by rw [w_const l hl]; rfl
  have cA : (8536140394893047414 : Int) = (hw (l.map fun _ => 118) : Nat) := by rw [w_const l hl]; rfl
  have cB : (3472328296227680304 : Int) = (hw (l.map fun _ => 48) : Nat) := by rw [w_const l hl]; rfl
  have bid : Bf fun b => b := fun b hb => hb
  have b128 : Bf fun _ => 128 := fun _ _ => (by decide : (128 : Nat) < 256)
  have b118 : Bf fun _ => 118 := fun _ _ => (by decide : (118 : Nat) < 256)
  have b48 : Bf fun _ => 48 := fun _ _ => (by decide : (48 : Nat) < 256)
  rw [cT, cA, cB, e0]
  rw [w_xor l hl h _ _ bid b48, w_andNot l hl h _ _ (bf_of _ (by decide +kernel)) b128, w_add l hl h _ _ (bf_of _ (by decide +kernel)), w_or l hl h _ _ (bf_of _ (by decide +kernel)) (bf_of _ (by decide +kernel)), w_and l hl h _ _ (bf_of _ (by decide +kernel)) b128,
    hw_map_congr l _ nd (fun b hb => nd_bytes ⟨b, hb⟩) h]

theorem first_t {p : Nat → Bool} {b : Nat} {r : List Nat} (h : p b = true) : first p (b :: r) = 0 := if_pos h
theorem first_f {p : Nat → Bool} {b : Nat} {r : List Nat} (h : p b = false) : first p (b :: r) = 1 + first p r := if_neg (by rw [h]; exact Bool.false_ne_true)
/-- Of eight bytes: how many digits stand ahead. -/
theorem first_run (l : List Int) (hb : Bytes l) : ∀ n d i, n ≤ d → i + d = l.length → runEnd l d i = if first pnd (nb l n i) < n then i + first pnd (nb l n i) else runEnd l (d - n) (i + n) := by
  intro n
  induction n with
  | zero => intro d i _ _; simp [nb, first]
  | succ n ih =>
    intro d i hd hi
    obtain ⟨d, rfl⟩ : ∃ m, d = m + 1 := ⟨d - 1, by omega⟩
    have hr := rd_mem hb i
    have := ih d (i + 1) (by omega) (by omega)
    have hnb : nb l (n + 1) i = (rd l (i : Int)).toNat :: nb l n (i + 1) := rfl
    have hre : runEnd l (d + 1) i = if isD (rd l (i : Int)) then runEnd l d (i + 1) else i := rfl
    rw [hnb, hre]
    by_cases h : isD (rd l (i : Int)) = true
    · have h' := h
      simp only [isD, decide_eq_true_eq] at h'
      have hp : pnd (rd l (i : Int)).toNat = false := by unfold pnd; rw [decide_eq_true (by omega)]; rfl
      rw [if_pos h, first_f hp, this]
      by_cases h2 : first pnd (nb l n (i + 1)) < n
      · rw [if_pos h2, if_pos (by omega)]; omega
      · rw [if_neg h2, if_neg (by omega), show d + 1 - (n + 1) = d - n by omega, show i + 1 + n = i + (n + 1) by omega]
    · have h' := h
      simp only [isD, decide_eq_true_eq] at h'
      have hp : pnd (rd l (i : Int)).toNat = true := by unfold pnd; rw [decide_eq_false (by omega)]; rfl
      rw [if_neg h, first_t hp, if_pos (by omega)]
      rfl

theorem Scan_1 (l : List Int) (hl : l.length ≤ 140737488355327) : ∀ d i k, i + d = l.length → d < k → gojsonnum_ScanDigits.l1 k l (i : Int) = some ((runEnd l d i : Nat) : Int) := by
  intro d
  induction d with
  | zero =>
    intro i k hi hk
    obtain ⟨k, rfl⟩ : ∃ m, k = m + 1 := ⟨k - 1, by omega⟩
    simp only [gojsonnum_ScanDigits.l1]
    rw [if_neg (by omega)]
    rfl
  | succ d ih =>
    intro i k hi hk
    obtain ⟨k, rfl⟩ : ∃ m, k = m + 1 := ⟨k - 1, by omega⟩
    simp only [gojsonnum_ScanDigits.l1]
    rw [if_pos (by omega), if_pos (by omega)]
    unfold runEnd
    by_cases h : isD (rd l (i : Int)) = true
    · have h' := h
      simp only [isD, decide_eq_true_eq] at h'
      rw [if_pos h'.1, if_pos h'.2, if_pos h, wrap_succ i l.length (by omega) (by omega)]
      exact ih (i + 1) k (by omega) (by omega)
    · have h' := h
      simp only [isD, decide_eq_true_eq] at h'
      rw [if_neg h]
      by_cases h1 : 48 ≤ rd l (i : Int)
      · rw [if_pos h1, if_neg (by omega)]
      · rw [if_neg h1]
theorem wrap_two (i m : Nat) (hi : i ≤ 140737488355328) (hm : m ≤ 64) : wrap64 ((i : Int) + wrap64 ((m : Nat) : Int)) = ((i + m : Nat) : Int) := by unfold wrap64; omega
theorem Scan_0 (l : List Int) (hb : Bytes l) (hl : l.length ≤ 140737488355327) : ∀ n d i k, d ≤ n → i + d = l.length → d + 1 < k → gojsonnum_ScanDigits.l0 k l (i : Int) = some ((runEnd l d i : Nat) : Int) := by
  intro n
  induction n with
  | zero =>
    intro d i k hn hi hk
    obtain ⟨k, rfl⟩ : ∃ m, k = m + 1 := ⟨k - 1, by omega⟩
    rw [gojsonnum_ScanDigits.l0]
    rw [if_neg (by unfold wrap64; omega)]
    exact Scan_1 l hl d i k hi (by omega)
  | succ n ih =>
    intro d i k hn hi hk
    obtain ⟨k, rfl⟩ : ∃ m, k = m + 1 := ⟨k - 1, by omega⟩
    have hw8 : wrap64 ((i : Int) + 8) = ((i + 8 : Nat) : Int) := by unfold wrap64; omega
    rw [gojsonnum_ScanDigits.l0, hw8]
    by_cases h8 : i + 8 ≤ l.length
    · rw [if_pos (by omega), if_pos (by omega), if_pos (by omega), Int.toNat_natCast, le64_f l hb i h8, Option.bind_some]
      have hbs := nb_bs l hb 8 i
      rw [nd_word _ (nb_length l 8 i) hbs]
      have hf := first_run l hb 8 d i (by omega) hi
      have hfl := first_le pnd (nb l 8 i)
      rw [nb_length] at hfl
      by_cases h0 : hw ((nb l 8 i).map nd) = 0
      · rw [if_pos (by rw [h0]; rfl)]
        have := hw_zero pnd (nb l 8 i) nd (fun b => rfl) h0
        rw [nb_length] at this
        rw [hf, if_neg (by omega)]
        exact ih (d - 8) (i + 8) k (by omega) (by omega) (by omega)
      · rw [if_neg (by omega)]
        have hlt := lt64 (nb l 8 i) (nb_length l 8 i) nd (bf_of nd (by decide +kernel)) hbs
        have hc := ctz_first pnd (nb l 8 i) nd (fun b => rfl) h0 64 (by rw [nb_length]; decide)
        have hcz : Lib.ctz 64 (hw ((nb l 8 i).map nd)) = Lib.ctzFrom 64 (hw ((nb l 8 i).map nd)) := by unfold Lib.ctz; rw [if_neg h0]
        have hk64 := (Lib.lowest_bit 64 _ h0 hlt).2
        unfold tz64.f
        rw [if_pos (by omega), Option.bind_some, Int.toNat_natCast, hcz]
        rw [hcz] at hk64
        generalize Lib.ctzFrom 64 (hw ((nb l 8 i).map nd)) = z at *
        rw [show Int.tdiv (z : Int) 8 = ((z / 8 : Nat) : Int) from by rw [Int.tdiv_eq_ediv_of_nonneg (by omega)]; omega, hc]
        rw [hf, if_pos (by omega), wrap_two i _ (by omega) (by omega)]
    · rw [if_neg (by omega)]
      exact Scan_1 l hl d i k hi (by omega)
theorem Scan_f (l : List Int) (hb : Bytes l) (hl : l.length ≤ 140737488355327) (i k : Nat) (hi : i ≤ l.length) (hk : l.length - i + 1 < k) : gojsonnum_ScanDigits.f k l (i : Int) = some ((runEnd l (l.length - i) i : Nat) : Int) :=
  Scan_0 l hb hl _ _ i k (Nat.le_refl _) (by omega) hk

theorem digit_f (c : Int) : spec_digit.f c = some (isD c) := by
  unfold spec_digit.f isD
  by_cases h : c ≥ 48
  · rw [if_pos h]; congr 1; simp; omega
  · rw [if_neg h]; congr 1; simp; omega
theorem digits8_l (l : List Int) (hl : l.length ≤ 140737488355327) : ∀ d i k, i + d = l.length → d < k → spec_digits8.l0 k l (i : Int) = some ((runEnd l d i : Nat) : Int) := by
  intro d
  induction d with
  | zero =>
    intro i k hi hk
    obtain ⟨k, rfl⟩ : ∃ m, k = m + 1 := ⟨k - 1, by omega⟩
    simp only [spec_digits8.l0]
    rw [if_neg (by omega)]
    rfl
  | succ d ih =>
    intro i k hi hk
    obtain ⟨k, rfl⟩ : ∃ m, k = m + 1 := ⟨k - 1, by omega⟩
    simp only [spec_digits8.l0]
    rw [if_pos (by omega), if_pos (by omega), digit_f]
    simp only [Option.bind_some]
    unfold runEnd
    by_cases h : isD (rd l (i : Int)) = true
    · rw [if_pos h, if_pos h, wrap_succ i l.length (by omega) (by omega)]
      exact ih (i + 1) k (by omega) (by omega)
    · rw [if_neg h, if_neg h]
theorem digits8_f (l : List Int) (hl : l.length ≤ 140737488355327) (i k : Nat) (hi : i ≤ l.length) (hk : l.length - i < k) : spec_digits8.f k l (i : Int) = some ((runEnd l (l.length - i) i : Nat) : Int) :=
  digits8_l l hl _ i k (by omega) hk
end Go.Proofs.YtoigokgechcaiaaDoor.Dig
