/- Words of 64 bits told by their bytes: what Go's operations on words do byte by byte; plain lemmas, no condition. -/
import Derived.Laws.Bits64
namespace Go.Proofs.YtoigokgechcaiaaDoor.Swar

/-- A word out of its bytes, the lowest one first. -/
def hw : List Nat → Nat
  | [] => 0
  | b :: r => b + 256 * hw r

/-- The bytes of a word. -/
def by_ : Nat → Nat → List Nat
  | 0, _ => []
  | n + 1, w => w % 256 :: by_ n (w / 256)

def Bs (l : List Nat) : Prop := ∀ x ∈ l, x < 256

theorem by_length (n w : Nat) : (by_ n w).length = n := by
  induction n generalizing w with
  | zero => rfl
  | succ n ih => simp [by_, ih]

theorem by_bs (n w : Nat) : Bs (by_ n w) := by
  induction n generalizing w with
  | zero => intro x h; simp [by_] at h
  | succ n ih =>
    intro x h
    simp only [by_, List.mem_cons] at h
    rcases h with rfl | h
    · omega
    · exact ih _ x h

theorem hw_by (n w : Nat) : hw (by_ n w) = w % 256 ^ n := by
  induction n generalizing w with
  | zero => simp [hw, by_, Nat.mod_one]
  | succ n ih =>
    simp only [hw, by_, ih]
    rw [Nat.pow_succ, Nat.mul_comm (256 ^ n) 256, Nat.mod_mul]

theorem hw_lt (l : List Nat) (h : Bs l) : hw l < 256 ^ l.length := by
  induction l with
  | nil => simp [hw]
  | cons b r ih =>
    have hb := h b (by simp)
    have := ih (fun x hx => h x (by simp [hx]))
    simp only [hw, List.length_cons, Nat.pow_succ]
    omega

theorem and_step (a m x y : Nat) (ha : a < 256) (hm : m < 256) : (a + 256 * x) &&& (m + 256 * y) = (a &&& m) + 256 * (x &&& y) := by
  have hlt : a &&& m < 2 ^ 8 := Nat.and_lt_two_pow _ hm
  apply Nat.eq_of_testBit_eq
  intro i
  rw [Nat.testBit_and, Nat.add_comm a, Nat.add_comm m, Nat.add_comm (a &&& m), show (256:Nat) = 2^8 from rfl, Nat.testBit_two_pow_mul_add _ ha, Nat.testBit_two_pow_mul_add _ hm, Nat.testBit_two_pow_mul_add _ hlt]
  split <;> simp

theorem or_step (a m x y : Nat) (ha : a < 256) (hm : m < 256) : (a + 256 * x) ||| (m + 256 * y) = (a ||| m) + 256 * (x ||| y) := by
  have hlt : a ||| m < 2 ^ 8 := Nat.or_lt_two_pow ha hm
  apply Nat.eq_of_testBit_eq
  intro i
  rw [Nat.testBit_or, Nat.add_comm a, Nat.add_comm m, Nat.add_comm (a ||| m), show (256:Nat) = 2^8 from rfl, Nat.testBit_two_pow_mul_add _ ha, Nat.testBit_two_pow_mul_add _ hm, Nat.testBit_two_pow_mul_add _ hlt]
  split <;> simp

theorem xor_step (a m x y : Nat) (ha : a < 256) (hm : m < 256) : (a + 256 * x) ^^^ (m + 256 * y) = (a ^^^ m) + 256 * (x ^^^ y) := by
  have hlt : a ^^^ m < 2 ^ 8 := Nat.xor_lt_two_pow ha hm
  apply Nat.eq_of_testBit_eq
  intro i
  rw [Nat.testBit_xor, Nat.add_comm a, Nat.add_comm m, Nat.add_comm (a ^^^ m), show (256:Nat) = 2^8 from rfl, Nat.testBit_two_pow_mul_add _ ha, Nat.testBit_two_pow_mul_add _ hm, Nat.testBit_two_pow_mul_add _ hlt]
  split <;> simp

theorem bs_tail {b : Nat} {r : List Nat} (h : Bs (b :: r)) : Bs r := fun x hx => h x (by simp [hx])
theorem bs_head {b : Nat} {r : List Nat} (h : Bs (b :: r)) : b < 256 := h b (by simp)

/-- Each byte by itself, against a byte that is the same in every place. -/
theorem hw_and (l : List Nat) (m : Nat) (h : Bs l) (hm : m < 256) : hw l &&& hw (List.replicate l.length m) = hw (l.map (· &&& m)) := by
  induction l with
  | nil => simp [hw]
  | cons b r ih => simp only [hw, List.length_cons, List.replicate_succ, List.map_cons, and_step _ _ _ _ (bs_head h) hm, ih (bs_tail h)]
theorem hw_or (l : List Nat) (m : Nat) (h : Bs l) (hm : m < 256) : hw l ||| hw (List.replicate l.length m) = hw (l.map (· ||| m)) := by
  induction l with
  | nil => simp [hw]
  | cons b r ih => simp only [hw, List.length_cons, List.replicate_succ, List.map_cons, or_step _ _ _ _ (bs_head h) hm, ih (bs_tail h)]
theorem hw_xor (l : List Nat) (m : Nat) (h : Bs l) (hm : m < 256) : hw l ^^^ hw (List.replicate l.length m) = hw (l.map (· ^^^ m)) := by
  induction l with
  | nil => simp [hw]
  | cons b r ih => simp only [hw, List.length_cons, List.replicate_succ, List.map_cons, xor_step _ _ _ _ (bs_head h) hm, ih (bs_tail h)]
theorem hw_add (l : List Nat) (m : Nat) : hw l + hw (List.replicate l.length m) = hw (l.map (· + m)) := by
  induction l with
  | nil => simp [hw]
  | cons b r ih => simp only [hw, List.length_cons, List.replicate_succ, List.map_cons, ← ih]; omega

/-- Two words, each a function of the same bytes. -/
theorem hw_and2 (l : List Nat) (f g : Nat → Nat) (hf : ∀ b, b < 256 → f b < 256) (hg : ∀ b, b < 256 → g b < 256) (h : Bs l) : hw (l.map f) &&& hw (l.map g) = hw (l.map fun b => f b &&& g b) := by
  induction l with
  | nil => simp [hw]
  | cons b r ih => simp only [hw, List.map_cons, and_step _ _ _ _ (hf _ (bs_head h)) (hg _ (bs_head h)), ih (bs_tail h)]
theorem hw_or2 (l : List Nat) (f g : Nat → Nat) (hf : ∀ b, b < 256 → f b < 256) (hg : ∀ b, b < 256 → g b < 256) (h : Bs l) : hw (l.map f) ||| hw (l.map g) = hw (l.map fun b => f b ||| g b) := by
  induction l with
  | nil => simp [hw]
  | cons b r ih => simp only [hw, List.map_cons, or_step _ _ _ _ (hf _ (bs_head h)) (hg _ (bs_head h)), ih (bs_tail h)]
theorem hw_xor2 (l : List Nat) (f g : Nat → Nat) (hf : ∀ b, b < 256 → f b < 256) (hg : ∀ b, b < 256 → g b < 256) (h : Bs l) : hw (l.map f) ^^^ hw (l.map g) = hw (l.map fun b => f b ^^^ g b) := by
  induction l with
  | nil => simp [hw]
  | cons b r ih => simp only [hw, List.map_cons, xor_step _ _ _ _ (hf _ (bs_head h)) (hg _ (bs_head h)), ih (bs_tail h)]
theorem hw_add2 (l : List Nat) (f g : Nat → Nat) : hw (l.map f) + hw (l.map g) = hw (l.map fun b => f b + g b) := by
  induction l with
  | nil => simp [hw]
  | cons b r ih => simp only [hw, List.map_cons, ← ih]; omega
theorem hw_sub2 (l : List Nat) (f g : Nat → Nat) (hle : ∀ b, b < 256 → g b ≤ f b) (h : Bs l) : hw (l.map g) ≤ hw (l.map f) ∧ hw (l.map f) - hw (l.map g) = hw (l.map fun b => f b - g b) := by
  induction l with
  | nil => simp [hw]
  | cons b r ih =>
    have := ih (bs_tail h)
    have hb := hle _ (bs_head h)
    simp only [hw, List.map_cons]
    omega
theorem hw_map_congr (l : List Nat) (f g : Nat → Nat) (hfg : ∀ b, b < 256 → f b = g b) (h : Bs l) : hw (l.map f) = hw (l.map g) := by
  induction l with
  | nil => rfl
  | cons b r ih => simp only [hw, List.map_cons, hfg _ (bs_head h), ih (bs_tail h)]
theorem map_rep (l : List Nat) (c : Nat) : (l.map fun _ => c) = List.replicate l.length c := by
  induction l with
  | nil => rfl
  | cons b r ih => simp only [List.map_cons, List.length_cons, List.replicate_succ, ih]
theorem hw_map_lt (l : List Nat) (f : Nat → Nat) (hf : ∀ b, b < 256 → f b < 256) (h : Bs l) : hw (l.map f) < 256 ^ l.length := by
  have := hw_lt (l.map f) (by intro x hx; obtain ⟨b, hb, rfl⟩ := List.mem_map.1 hx; exact hf b (h b hb))
  simpa using this

/-! ### Go's words, as natural numbers -/
abbrev M64 : Nat := 18446744073709551616
theorem ofInt_nat (a : Nat) (ha : a < 18446744073709551616) : (BitVec.ofInt 64 (a : Int)).toNat = a := by
  rw [BitVec.ofInt_natCast, BitVec.toNat_ofNat]; exact Nat.mod_eq_of_lt (by omega)
theorem bits_and (a b : Nat) (ha : a < 18446744073709551616) (hb : b < 18446744073709551616) : Go.bits .and .u64 (a : Int) (b : Int) = ((a &&& b : Nat) : Int) := by
  have hx : a &&& b < 2 ^ 64 := Nat.and_lt_two_pow _ (by omega)
  show IntKind.u64.wrap ((BitVec.ofInt 64 (a : Int) &&& BitVec.ofInt 64 (b : Int)).toNat : Int) = _
  rw [BitVec.toNat_and, ofInt_nat a ha, ofInt_nat b hb, IntKind.wrap_u64]
  omega
theorem bits_or (a b : Nat) (ha : a < 18446744073709551616) (hb : b < 18446744073709551616) : Go.bits .or .u64 (a : Int) (b : Int) = ((a ||| b : Nat) : Int) := by
  have hx : a ||| b < 2 ^ 64 := Nat.or_lt_two_pow (by omega) (by omega)
  show IntKind.u64.wrap ((BitVec.ofInt 64 (a : Int) ||| BitVec.ofInt 64 (b : Int)).toNat : Int) = _
  rw [BitVec.toNat_or, ofInt_nat a ha, ofInt_nat b hb, IntKind.wrap_u64]
  omega
theorem bits_xor (a b : Nat) (ha : a < 18446744073709551616) (hb : b < 18446744073709551616) : Go.bits .xor .u64 (a : Int) (b : Int) = ((a ^^^ b : Nat) : Int) := bits_xor_u64_nat a b ha hb
theorem bits_andNot (a b : Nat) (ha : a < 18446744073709551616) (hb : b < 18446744073709551616) : Go.bits .andNot .u64 (a : Int) (b : Int) = ((a &&& (18446744073709551615 - b) : Nat) : Int) := by
  have hx : a &&& (18446744073709551615 - b) < 2 ^ 64 := Nat.and_lt_two_pow _ (by omega)
  show IntKind.u64.wrap ((BitVec.ofInt 64 (a : Int) &&& ~~~ (BitVec.ofInt 64 (b : Int))).toNat : Int) = _
  rw [BitVec.toNat_and, BitVec.toNat_not, ofInt_nat a ha, ofInt_nat b hb, IntKind.wrap_u64]
  have : (2 ^ 64 - 1 - b : Nat) = 18446744073709551615 - b := by omega
  rw [this]
  omega

/-- The bytes of all ones less those of a word. -/
theorem hw_not (l : List Nat) (h : Bs l) : (256 ^ l.length - 1) - hw l = hw (l.map (255 - ·)) := by
  induction l with
  | nil => simp [hw]
  | cons b r ih =>
    have := ih (bs_tail h)
    have hb := bs_head h
    have hl := hw_lt r (bs_tail h)
    simp only [hw, List.length_cons, List.map_cons, Nat.pow_succ]
    omega

/-- A function of bytes, below 256. -/
def Bf (f : Nat → Nat) : Prop := ∀ b, b < 256 → f b < 256
theorem not64 (l : List Nat) (hl : l.length = 8) (f : Nat → Nat) (hf : Bf f) (h : Bs l) : 18446744073709551615 - hw (l.map f) = hw (l.map fun b => 255 - f b) := by
  have := hw_not (l.map f) (by intro x hx; obtain ⟨b, hb, rfl⟩ := List.mem_map.1 hx; exact hf b (h b hb))
  rw [List.length_map, hl, List.map_map] at this
  exact this
theorem lt64 (l : List Nat) (hl : l.length = 8) (f : Nat → Nat) (hf : Bf f) (h : Bs l) : hw (l.map f) < 18446744073709551616 := by
  have := hw_map_lt l f hf h
  rw [hl] at this
  exact this

/-- Go's operations on words told by their bytes. -/
theorem w_and (l : List Nat) (hl : l.length = 8) (h : Bs l) (f g : Nat → Nat) (hf : Bf f) (hg : Bf g) :
    Go.bits .and .u64 (hw (l.map f) : Int) (hw (l.map g) : Int) = (hw (l.map fun b => f b &&& g b) : Int) := by
  rw [bits_and _ _ (lt64 l hl f hf h) (lt64 l hl g hg h), hw_and2 l f g hf hg h]
theorem w_or (l : List Nat) (hl : l.length = 8) (h : Bs l) (f g : Nat → Nat) (hf : Bf f) (hg : Bf g) :
    Go.bits .or .u64 (hw (l.map f) : Int) (hw (l.map g) : Int) = (hw (l.map fun b => f b ||| g b) : Int) := by
  rw [bits_or _ _ (lt64 l hl f hf h) (lt64 l hl g hg h), hw_or2 l f g hf hg h]
theorem w_xor (l : List Nat) (hl : l.length = 8) (h : Bs l) (f g : Nat → Nat) (hf : Bf f) (hg : Bf g) :
    Go.bits .xor .u64 (hw (l.map f) : Int) (hw (l.map g) : Int) = (hw (l.map fun b => f b ^^^ g b) : Int) := by
  rw [bits_xor _ _ (lt64 l hl f hf h) (lt64 l hl g hg h), hw_xor2 l f g hf hg h]
theorem w_andNot (l : List Nat) (hl : l.length = 8) (h : Bs l) (f g : Nat → Nat) (hf : Bf f) (hg : Bf g) :
    Go.bits .andNot .u64 (hw (l.map f) : Int) (hw (l.map g) : Int) = (hw (l.map fun b => f b &&& (255 - g b)) : Int) := by
  have hg' : Bf fun b => 255 - g b := fun b hb => by have := hg b hb; show 255 - g b < 256; omega
  rw [bits_andNot _ _ (lt64 l hl f hf h) (lt64 l hl g hg h), not64 l hl g hg h, hw_and2 l f _ hf hg' h]
theorem w_add (l : List Nat) (hl : l.length = 8) (h : Bs l) (f g : Nat → Nat) (hfg : Bf fun b => f b + g b) :
    IntKind.u64.wrap ((hw (l.map f) : Int) + (hw (l.map g) : Int)) = (hw (l.map fun b => f b + g b) : Int) := by
  have := hw_add2 l f g
  have h2 := lt64 l hl _ hfg h
  rw [IntKind.wrap_u64]
  omega
theorem w_sub (l : List Nat) (hl : l.length = 8) (h : Bs l) (f g : Nat → Nat) (hf : Bf f) (hle : ∀ b, b < 256 → g b ≤ f b) :
    IntKind.u64.wrap ((hw (l.map f) : Int) - (hw (l.map g) : Int)) = (hw (l.map fun b => f b - g b) : Int) := by
  have := hw_sub2 l f g hle h
  have h2 := lt64 l hl f hf h
  rw [IntKind.wrap_u64]
  omega
theorem w_const (l : List Nat) (hl : l.length = 8) (c : Nat) : hw (l.map fun _ => c) = hw (List.replicate 8 c) := by rw [map_rep, hl]

/-- Every word is the word of its eight bytes. -/
theorem word_bytes (w : Nat) (h : w < 18446744073709551616) : hw (by_ 8 w) = w := by
  rw [hw_by]; exact Nat.mod_eq_of_lt h
/-- Byte i of a word. -/
theorem hw_byte (l : List Nat) (h : Bs l) (i : Nat) (hi : i < l.length) : hw l / 256 ^ i % 256 = l.getD i 0 := by
  induction l generalizing i with
  | nil => simp at hi
  | cons b r ih =>
    have hb := bs_head h
    cases i with
    | zero => simp [hw, Nat.add_mul_mod_self_left, Nat.mod_eq_of_lt hb]
    | succ i =>
      have hd : (b + 256 * hw r) / 256 = hw r := by omega
      rw [show hw (b :: r) = b + 256 * hw r from rfl, Nat.pow_succ, Nat.mul_comm (256 ^ i) 256, ← Nat.div_div_eq_div_mul, hd, ih (bs_tail h) i (by simpa using hi)]
      simp
theorem hw_append (a c : List Nat) : hw (a ++ c) = hw a + 256 ^ a.length * hw c := by
  induction a with
  | nil => simp [hw]
  | cons b r ih => simp only [List.cons_append, hw, List.length_cons, Nat.pow_succ, ih]; grind
end Go.Proofs.YtoigokgechcaiaaDoor.Swar
