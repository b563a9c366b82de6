/- Bytes, runs of digits, values of digits: plain lemmas over lists of bytes. -/
import Derived.Test.YtbikiibpjdiaaaaDoorGate
import Derived.Laws.Bits64
import Derived.Test.YtbikiibpjdiaaaaDoorTz
import Derived.Lib.TrailingZeros
namespace Go.Proofs.YtbikiibpjdiaaaaDoor.Dig
open Go.RowKit Go.Proofs.YtbikiibpjdiaaaaDoorW.PrintWords Go.Proofs.YtbikiibpjdiaaaaDoorW.PrintLast Go.Proofs.YtbikiibpjdiaaaaDoorW.PrintMore
def isD (c : Int) : Bool := decide (48 ≤ c ∧ c ≤ 57)
def Bytes (l : List Int) : Prop := ∀ x ∈ l, 0 ≤ x ∧ x < 256
theorem bytes_of (l : List Int) (h : ∀ x ∈ l, (Lit.int .u8 x).wf = true) : Bytes l := fun x hx => by
 have := h x hx
 have h1 : 0 ≤ x ∧ x ≤ 255 := by simpa [Lit.wf, IntKind.min, IntKind.max, IntKind.bits, IntKind.signed] using this
 omega
theorem rd_nat (l : List Int) (i : Nat) : rd l (i : Int) = l.getD i 0 := rfl
theorem rd_mem {l : List Int} (h : Bytes l) (i : Nat) : 0 ≤ rd l (i : Int) ∧ rd l (i : Int) < 256 := by
 rw [rd_nat, List.getD_eq_getElem?_getD]
 rcases Nat.lt_or_ge i l.length with hi | hi
 ·rw [List.getElem?_eq_getElem hi]; exact h _ (List.getElem_mem hi)
 ·rw [List.getElem?_eq_none hi]; decide
theorem rd_app (l m : List Int) (i : Nat) (hi : i < l.length) : rd (l ++ m) (i : Int) = rd l (i : Int) := by
 rw [rd_nat, rd_nat, List.getD_eq_getElem?_getD, List.getD_eq_getElem?_getD, List.getElem?_append_left hi]
theorem rd_last (l : List Int) (x : Int) : rd (l ++ [x]) (l.length : Int) = x := by
 rw [rd_nat, List.getD_eq_getElem?_getD]; simp
theorem wrap_succ (i n : Nat) (hi : i ≤ n) (hn : n ≤ 140737488355328) : wrap64 ((i : Int) + 1) = ((i + 1 : Nat) : Int) := by unfold wrap64; omega

/-- Where the digits from i on end: d is how far there is to look. -/
def runEnd (l : List Int) : Nat → Nat → Nat
 | 0, i => i
 | d + 1, i => if isD (rd l (i : Int)) then runEnd l d (i + 1) else i
theorem runEnd_ge (l : List Int) : ∀ d i, i ≤ runEnd l d i ∧ runEnd l d i ≤ i + d := by
 intro d
 induction d with
 | zero => intro i; simp [runEnd]
 | succ d ih =>
  intro i
  have := ih (i + 1)
  unfold runEnd
  split <;> omega
theorem runEnd_digit (l : List Int) : ∀ d i j, i ≤ j → j < runEnd l d i → isD (rd l (j : Int)) = true := by
 intro d
 induction d with
 | zero => intro i j h1 h2; simp [runEnd] at h2; omega
 | succ d ih =>
  intro i j h1 h2
  unfold runEnd at h2
  split at h2
  ·rename_i hd
   rcases Nat.eq_or_lt_of_le h1 with rfl | h3
   ·exact hd
   ·exact ih (i + 1) j h3 h2
  ·omega
theorem runEnd_stop (l : List Int) : ∀ d i, runEnd l d i < i + d → isD (rd l (runEnd l d i : Int)) = false := by
 intro d
 induction d with
 | zero => intro i h; simp [runEnd] at h
 | succ d ih =>
  intro i h
  unfold runEnd at h ⊢
  split
  ·rename_i hd
   rw [if_pos hd] at h
   exact ih (i + 1) (by omega)
  ·rename_i hd
   simpa using hd
theorem runEnd_app (l m : List Int) : ∀ d i, i + d ≤ l.length → runEnd (l ++ m) d i = runEnd l d i := by
 intro d
 induction d with
 | zero => intro i _; rfl
 | succ d ih =>
  intro i h
  unfold runEnd
  rw [rd_app l m i (by omega), ih (i + 1) (by omega)]

/-- The value of digits, from a value ahead of them. -/
def val (n : Nat) : List Int → Nat
 | [] => n
 | c :: r => val (n * 10 + ((c - 48) % 256).toNat) r
theorem val_ge : ∀ (l : List Int) (n : Nat), n ≤ val n l := by
 intro l
 induction l with
 | nil => intro n; exact Nat.le_refl _
 | cons c r ih => intro n; exact Nat.le_trans (by omega) (ih _)
theorem val_lt : ∀ (l : List Int), (∀ c ∈ l, isD c = true) → ∀ n m, n < 10 ^ m → val n l < 10 ^ (m + l.length) := by
 intro l
 induction l with
 | nil => intro _ n m h; exact h
 | cons c r ih =>
  intro hd n m h
  have h1 := hd c (by simp)
  simp only [isD, decide_eq_true_eq] at h1
  have := ih (fun x hx => hd x (by simp [hx])) (n * 10 + ((c - 48) % 256).toNat) (m + 1) (by rw [Nat.pow_succ]; omega)
  simpa [val, Nat.add_assoc, Nat.add_comm 1] using this
theorem val_app (a b : List Int) : ∀ n, val n (a ++ b) = val (val n a) b := by
 induction a with
 | nil => intro n; rfl
 | cons c r ih => intro n; exact ih _
/-- The bytes between two places. -/
def cut (l : List Int) (i j : Nat) : List Int := (l.take j).drop i
theorem cut_self (l : List Int) (i : Nat) : cut l i i = [] := by
 unfold cut; apply List.drop_of_length_le; rw [List.length_take]; omega
theorem cut_snoc (l : List Int) (i j : Nat) (h1 : i ≤ j) (h2 : j < l.length) : cut l i (j + 1) = cut l i j ++ [rd l (j : Int)] := by
 unfold cut
 rw [List.take_succ_eq_append_getElem h2, List.drop_append_of_le_length (by rw [List.length_take]; omega), rd_nat, List.getD_eq_getElem?_getD, List.getElem?_eq_getElem h2]; rfl
theorem cut_length (l : List Int) (i j : Nat) (h1 : i ≤ j) (h2 : j ≤ l.length) : (cut l i j).length = j - i := by
 unfold cut; rw [List.length_drop, List.length_take]; omega
theorem cut_mem (l : List Int) (i j : Nat) (h2 : j ≤ l.length) (c : Int) (hc : c ∈ cut l i j) : ∃ m : Nat, i ≤ m ∧ m < j ∧ c = rd l (m : Int) := by
 unfold cut at hc
 obtain ⟨m, hm, rfl⟩ := List.getElem_of_mem hc
 rw [List.length_drop, List.length_take] at hm
 refine ⟨i + m, by omega, by omega, ?_⟩
 rw [List.getElem_drop, List.getElem_take, rd_nat, List.getD_eq_getElem?_getD, List.getElem?_eq_getElem (by omega)]; rfl

end Go.Proofs.YtbikiibpjdiaaaaDoor.Dig
/- Words of 64 bits told by their bytes: what Go's operations on words do byte by byte; plain lemmas, no condition. -/
namespace Go.Proofs.YtbikiibpjdiaaaaDoor.Swar

/-- A word out of its bytes, the lowest one first. -/
def hw : List Nat → Nat
 | [] => 0
 | b :: r => b + 256 * hw r

/-- The bytes of a word. -/
def by_ : Nat → Nat → List Nat
 | 0, _ => []
 | n + 1, w => w % 256 :: by_ n (w / 256)

def Bs (l : List Nat) : Prop := ∀ x ∈ l, x < 256

theorem by_length (n w : Nat) : (by_ n w).length = n := by
 induction n generalizing w with
 | zero => rfl
 | succ n ih => simp [by_, ih]

theorem by_bs (n w : Nat) : Bs (by_ n w) := by
 induction n generalizing w with
 | zero => intro x h; simp [by_] at h
 | succ n ih =>
  intro x h
  simp only [by_, List.mem_cons] at h
  rcases h with rfl | h
  ·omega
  ·exact ih _ x h

theorem hw_by (n w : Nat) : hw (by_ n w) = w % 256 ^ n := by
 induction n generalizing w with
 | zero => simp [hw, by_, Nat.mod_one]
 | succ n ih =>
  simp only [hw, by_, ih]
  rw [Nat.pow_succ, Nat.mul_comm (256 ^ n) 256, Nat.mod_mul]

theorem hw_lt (l : List Nat) (h : Bs l) : hw l < 256 ^ l.length := by
 induction l with
 | nil => simp [hw]
 | cons b r ih =>
  have hb := h b (by simp)
  have := ih (fun x hx => h x (by simp [hx]))
  simp only [hw, List.length_cons, Nat.pow_succ]
  omega

theorem and_step (a m x y : Nat) (ha : a < 256) (hm : m < 256) : (a + 256 * x) &&& (m + 256 * y) = (a &&& m) + 256 * (x &&& y) := by
 have hlt : a &&& m < 2 ^ 8 := Nat.and_lt_two_pow _ hm
 apply Nat.eq_of_testBit_eq
 intro i
 rw [Nat.testBit_and, Nat.add_comm a, Nat.add_comm m, Nat.add_comm (a &&& m), show (256:Nat) = 2^8 from rfl, Nat.testBit_two_pow_mul_add _ ha, Nat.testBit_two_pow_mul_add _ hm, Nat.testBit_two_pow_mul_add _ hlt]
 split <;> simp

theorem or_step (a m x y : Nat) (ha : a < 256) (hm : m < 256) : (a + 256 * x) ||| (m + 256 * y) = (a ||| m) + 256 * (x ||| y) := by
 have hlt : a ||| m < 2 ^ 8 := Nat.or_lt_two_pow ha hm
 apply Nat.eq_of_testBit_eq
 intro i
 rw [Nat.testBit_or, Nat.add_comm a, Nat.add_comm m, Nat.add_comm (a ||| m), show (256:Nat) = 2^8 from rfl, Nat.testBit_two_pow_mul_add _ ha, Nat.testBit_two_pow_mul_add _ hm, Nat.testBit_two_pow_mul_add _ hlt]
 split <;> simp

theorem xor_step (a m x y : Nat) (ha : a < 256) (hm : m < 256) : (a + 256 * x) ^^^ (m + 256 * y) = (a ^^^ m) + 256 * (x ^^^ y) := by
 have hlt : a ^^^ m < 2 ^ 8 := Nat.xor_lt_two_pow ha hm
 apply Nat.eq_of_testBit_eq
 intro i
 rw [Nat.testBit_xor, Nat.add_comm a, Nat.add_comm m, Nat.add_comm (a ^^^ m), show (256:Nat) = 2^8 from rfl, Nat.testBit_two_pow_mul_add _ ha, Nat.testBit_two_pow_mul_add _ hm, Nat.testBit_two_pow_mul_add _ hlt]
 split <;> simp

theorem bs_tail {b : Nat} {r : List Nat} (h : Bs (b :: r)) : Bs r := fun x hx => h x (by simp [hx])
theorem bs_head {b : Nat} {r : List Nat} (h : Bs (b :: r)) : b < 256 := h b (by simp)

/-- Each byte by itself, against a byte that is the same in every place. -/
theorem hw_and (l : List Nat) (m : Nat) (h : Bs l) (hm : m < 256) : hw l &&& hw (List.replicate l.length m) = hw (l.map (· &&& m)) := by
 induction l with
 | nil => simp [hw]
 | cons b r ih => simp only [hw, List.length_cons, List.replicate_succ, List.map_cons, and_step _ _ _ _ (bs_head h) hm, ih (bs_tail h)]
theorem hw_or (l : List Nat) (m : Nat) (h : Bs l) (hm : m < 256) : hw l ||| hw (List.replicate l.length m) = hw (l.map (· ||| m)) := by
 induction l with
 | nil => simp [hw]
 | cons b r ih => simp only [hw, List.length_cons, List.replicate_succ, List.map_cons, or_step _ _ _ _ (bs_head h) hm, ih (bs_tail h)]
theorem hw_xor (l : List Nat) (m : Nat) (h : Bs l) (hm : m < 256) : hw l ^^^ hw (List.replicate l.length m) = hw (l.map (· ^^^ m)) := by
 induction l with
 | nil => simp [hw]
 | cons b r ih => simp only [hw, List.length_cons, List.replicate_succ, List.map_cons, xor_step _ _ _ _ (bs_head h) hm, ih (bs_tail h)]
theorem hw_add (l : List Nat) (m : Nat) : hw l + hw (List.replicate l.length m) = hw (l.map (· + m)) := by
 induction l with
 | nil => simp [hw]
 | cons b r ih => simp only [hw, List.length_cons, List.replicate_succ, List.map_cons, ← ih]; omega

/-- Two words, each a function of the same bytes. -/
theorem hw_and2 (l : List Nat) (f g : Nat → Nat) (hf : ∀ b, b < 256 → f b < 256) (hg : ∀ b, b < 256 → g b < 256) (h : Bs l) : hw (l.map f) &&& hw (l.map g) = hw (l.map fun b => f b &&& g b) := by
 induction l with
 | nil => simp [hw]
 | cons b r ih => simp only [hw, List.map_cons, and_step _ _ _ _ (hf _ (bs_head h)) (hg _ (bs_head h)), ih (bs_tail h)]
theorem hw_or2 (l : List Nat) (f g : Nat → Nat) (hf : ∀ b, b < 256 → f b < 256) (hg : ∀ b, b < 256 → g b < 256) (h : Bs l) : hw (l.map f) ||| hw (l.map g) = hw (l.map fun b => f b ||| g b) := by
 induction l with
 | nil => simp [hw]
 | cons b r ih => simp only [hw, List.map_cons, or_step _ _ _ _ (hf _ (bs_head h)) (hg _ (bs_head h)), ih (bs_tail h)]
theorem hw_xor2 (l : List Nat) (f g : Nat → Nat) (hf : ∀ b, b < 256 → f b < 256) (hg : ∀ b, b < 256 → g b < 256) (h : Bs l) : hw (l.map f) ^^^ hw (l.map g) = hw (l.map fun b => f b ^^^ g b) := by
 induction l with
 | nil => simp [hw]
 | cons b r ih => simp only [hw, List.map_cons, xor_step _ _ _ _ (hf _ (bs_head h)) (hg _ (bs_head h)), ih (bs_tail h)]
theorem hw_add2 (l : List Nat) (f g : Nat → Nat) : hw (l.map f) + hw (l.map g) = hw (l.map fun b => f b + g b) := by
 induction l with
 | nil => simp [hw]
 | cons b r ih => simp only [hw, List.map_cons, ← ih]; omega
theorem hw_sub2 (l : List Nat) (f g : Nat → Nat) (hle : ∀ b, b < 256 → g b ≤ f b) (h : Bs l) : hw (l.map g) ≤ hw (l.map f) ∧ hw (l.map f) - hw (l.map g) = hw (l.map fun b => f b - g b) := by
 induction l with
 | nil => simp [hw]
 | cons b r ih =>
  have := ih (bs_tail h)
  have hb := hle _ (bs_head h)
  simp only [hw, List.map_cons]
  omega
theorem hw_map_congr (l : List Nat) (f g : Nat → Nat) (hfg : ∀ b, b < 256 → f b = g b) (h : Bs l) : hw (l.map f) = hw (l.map g) := by
 induction l with
 | nil => rfl
 | cons b r ih => simp only [hw, List.map_cons, hfg _ (bs_head h), ih (bs_tail h)]
theorem map_rep (l : List Nat) (c : Nat) : (l.map fun _ => c) = List.replicate l.length c := by
 induction l with
 | nil => rfl
 | cons b r ih => simp only [List.map_cons, List.length_cons, List.replicate_succ, ih]
theorem hw_map_lt (l : List Nat) (f : Nat → Nat) (hf : ∀ b, b < 256 → f b < 256) (h : Bs l) : hw (l.map f) < 256 ^ l.length := by
 have := hw_lt (l.map f) (by intro x hx; obtain ⟨b, hb, rfl⟩ := List.mem_map.1 hx; exact hf b (h b hb))
 simpa using this

/-! ### Go's words, as natural numbers -/
abbrev M64 : Nat := 18446744073709551616
theorem ofInt_nat (a : Nat) (ha : a < 18446744073709551616) : (BitVec.ofInt 64 (a : Int)).toNat = a := by
 rw [BitVec.ofInt_natCast, BitVec.toNat_ofNat]; exact Nat.mod_eq_of_lt (by omega)
theorem bits_and (a b : Nat) (ha : a < 18446744073709551616) (hb : b < 18446744073709551616) : Go.bits .and .u64 (a : Int) (b : Int) = ((a &&& b : Nat) : Int) := by
 have hx : a &&& b < 2 ^ 64 := Nat.and_lt_two_pow _ (by omega)
 show IntKind.u64.wrap ((BitVec.ofInt 64 (a : Int) &&& BitVec.ofInt 64 (b : Int)).toNat : Int) = _
 rw [BitVec.toNat_and, ofInt_nat a ha, ofInt_nat b hb, IntKind.wrap_u64]
 omega
theorem bits_or (a b : Nat) (ha : a < 18446744073709551616) (hb : b < 18446744073709551616) : Go.bits .or .u64 (a : Int) (b : Int) = ((a ||| b : Nat) : Int) := by
 have hx : a ||| b < 2 ^ 64 := Nat.or_lt_two_pow (by omega) (by omega)
 show IntKind.u64.wrap ((BitVec.ofInt 64 (a : Int) ||| BitVec.ofInt 64 (b : Int)).toNat : Int) = _
 rw [BitVec.toNat_or, ofInt_nat a ha, ofInt_nat b hb, IntKind.wrap_u64]
 omega
theorem bits_xor (a b : Nat) (ha : a < 18446744073709551616) (hb : b < 18446744073709551616) : Go.bits .xor .u64 (a : Int) (b : Int) = ((a ^^^ b : Nat) : Int) := bits_xor_u64_nat a b ha hb
theorem bits_andNot (a b : Nat) (ha : a < 18446744073709551616) (hb : b < 18446744073709551616) : Go.bits .andNot .u64 (a : Int) (b : Int) = ((a &&& (18446744073709551615 - b) : Nat) : Int) := by
 have hx : a &&& (18446744073709551615 - b) < 2 ^ 64 := Nat.and_lt_two_pow _ (by omega)
 show IntKind.u64.wrap ((BitVec.ofInt 64 (a : Int) &&& ~~~ (BitVec.ofInt 64 (b : Int))).toNat : Int) = _
 rw [BitVec.toNat_and, BitVec.toNat_not, ofInt_nat a ha, ofInt_nat b hb, IntKind.wrap_u64]
 have : (2 ^ 64 - 1 - b : Nat) = 18446744073709551615 - b := by omega
 rw [this]
 omega

/-- The bytes of all ones less those of a word. -/
theorem hw_not (l : List Nat) (h : Bs l) : (256 ^ l.length - 1) - hw l = hw (l.map (255 - ·)) := by
 induction l with
 | nil => simp [hw]
 | cons b r ih =>
  have := ih (bs_tail h)
  have hb := bs_head h
  have hl := hw_lt r (bs_tail h)
  simp only [hw, List.length_cons, List.map_cons, Nat.pow_succ]
  omega

/-- A function of bytes, below 256. -/
def Bf (f : Nat → Nat) : Prop := ∀ b, b < 256 → f b < 256
theorem not64 (l : List Nat) (hl : l.length = 8) (f : Nat → Nat) (hf : Bf f) (h : Bs l) : 18446744073709551615 - hw (l.map f) = hw (l.map fun b => 255 - f b) := by
 have := hw_not (l.map f) (by intro x hx; obtain ⟨b, hb, rfl⟩ := List.mem_map.1 hx; exact hf b (h b hb))
 rw [List.length_map, hl, List.map_map] at this
 exact this
theorem lt64 (l : List Nat) (hl : l.length = 8) (f : Nat → Nat) (hf : Bf f) (h : Bs l) : hw (l.map f) < 18446744073709551616 := by
 have := hw_map_lt l f hf h
 rw [hl] at this
 exact this

/-- Go's operations on words told by their bytes. -/
theorem w_and (l : List Nat) (hl : l.length = 8) (h : Bs l) (f g : Nat → Nat) (hf : Bf f) (hg : Bf g) :
  Go.bits .and .u64 (hw (l.map f) : Int) (hw (l.map g) : Int) = (hw (l.map fun b => f b &&& g b) : Int) := by
 rw [bits_and _ _ (lt64 l hl f hf h) (lt64 l hl g hg h), hw_and2 l f g hf hg h]
theorem w_or (l : List Nat) (hl : l.length = 8) (h : Bs l) (f g : Nat → Nat) (hf : Bf f) (hg : Bf g) :
  Go.bits .or .u64 (hw (l.map f) : Int) (hw (l.map g) : Int) = (hw (l.map fun b => f b ||| g b) : Int) := by
 rw [bits_or _ _ (lt64 l hl f hf h) (lt64 l hl g hg h), hw_or2 l f g hf hg h]
theorem w_xor (l : List Nat) (hl : l.length = 8) (h : Bs l) (f g : Nat → Nat) (hf : Bf f) (hg : Bf g) :
  Go.bits .xor .u64 (hw (l.map f) : Int) (hw (l.map g) : Int) = (hw (l.map fun b => f b ^^^ g b) : Int) := by
 rw [bits_xor _ _ (lt64 l hl f hf h) (lt64 l hl g hg h), hw_xor2 l f g hf hg h]
theorem w_andNot (l : List Nat) (hl : l.length = 8) (h : Bs l) (f g : Nat → Nat) (hf : Bf f) (hg : Bf g) :
  Go.bits .andNot .u64 (hw (l.map f) : Int) (hw (l.map g) : Int) = (hw (l.map fun b => f b &&& (255 - g b)) : Int) := by
 have hg' : Bf fun b => 255 - g b := fun b hb => by have := hg b hb; show 255 - g b < 256; omega
 rw [bits_andNot _ _ (lt64 l hl f hf h) (lt64 l hl g hg h), not64 l hl g hg h, hw_and2 l f _ hf hg' h]
theorem w_add (l : List Nat) (hl : l.length = 8) (h : Bs l) (f g : Nat → Nat) (hfg : Bf fun b => f b + g b) :
  IntKind.u64.wrap ((hw (l.map f) : Int) + (hw (l.map g) : Int)) = (hw (l.map fun b => f b + g b) : Int) := by
 have := hw_add2 l f g
 have h2 := lt64 l hl _ hfg h
 rw [IntKind.wrap_u64]
 omega
theorem w_sub (l : List Nat) (hl : l.length = 8) (h : Bs l) (f g : Nat → Nat) (hf : Bf f) (hle : ∀ b, b < 256 → g b ≤ f b) :
  IntKind.u64.wrap ((hw (l.map f) : Int) - (hw (l.map g) : Int)) = (hw (l.map fun b => f b - g b) : Int) := by
 have := hw_sub2 l f g hle h
 have h2 := lt64 l hl f hf h
 rw [IntKind.wrap_u64]
 omega
theorem w_const (l : List Nat) (hl : l.length = 8) (c : Nat) : hw (l.map fun _ => c) = hw (List.replicate 8 c) := by rw [map_rep, hl]

/-- Every word is the word of its eight bytes. -/
theorem word_bytes (w : Nat) (h : w < 18446744073709551616) : hw (by_ 8 w) = w := by
 rw [hw_by]; exact Nat.mod_eq_of_lt h
/-- Byte i of a word. -/
theorem hw_byte (l : List Nat) (h : Bs l) (i : Nat) (hi : i < l.length) : hw l / 256 ^ i % 256 = l.getD i 0 := by
 induction l generalizing i with
 | nil => simp at hi
 | cons b r ih =>
  have hb := bs_head h
  cases i with
  | zero => simp [hw, Nat.add_mul_mod_self_left, Nat.mod_eq_of_lt hb]
  | succ i =>
   have hd : (b + 256 * hw r) / 256 = hw r := by omega
   rw [show hw (b :: r) = b + 256 * hw r from rfl, Nat.pow_succ, Nat.mul_comm (256 ^ i) 256, ← Nat.div_div_eq_div_mul, hd, ih (bs_tail h) i (by simpa using hi)]
   simp
theorem hw_append (a c : List Nat) : hw (a ++ c) = hw a + 256 ^ a.length * hw c := by
 induction a with
 | nil => simp [hw]
 | cons b r ih => simp only [List.cons_append, hw, List.length_cons, Nat.pow_succ, ih]; grind
end Go.Proofs.YtbikiibpjdiaaaaDoor.Swar
/- The end of a run of digits, looked for by words of eight bytes, is the one looked for byte by byte; plain lemmas. -/
namespace Go.Proofs.YtbikiibpjdiaaaaDoor.Dig
open Go.RowKit Go.Proofs.YtbikiibpjdiaaaaDoorW.PrintWords Go.Proofs.YtbikiibpjdiaaaaDoorW.PrintLast Go.Proofs.YtbikiibpjdiaaaaDoorW.PrintMore Go.Proofs.YtbikiibpjdiaaaaDoor.Swar

/-! ### Words of bytes out of a list -/
/-- The n bytes from i on, as natural numbers. -/
def nb (l : List Int) : Nat → Nat → List Nat
 | 0, _ => []
 | n + 1, i => (rd l (i : Int)).toNat :: nb l n (i + 1)
theorem nb_length (l : List Int) : ∀ n i, (nb l n i).length = n := by
 intro n; induction n with
 | zero => intro i; rfl
 | succ n ih => intro i; simp [nb, ih]
theorem nb_bs (l : List Int) (h : Bytes l) : ∀ n i, Bs (nb l n i) := by
 intro n; induction n with
 | zero => intro i x hx; simp [nb] at hx
 | succ n ih =>
  intro i x hx
  simp only [nb, List.mem_cons] at hx
  rcases hx with rfl | hx
  ·have := rd_mem h i; omega
  ·exact ih _ x hx
theorem rd_drop (l : List Int) (i j : Nat) : rd (l.drop i) (j : Int) = rd l ((i + j : Nat) : Int) := by
 rw [rd_nat, rd_nat, List.getD_eq_getElem?_getD, List.getD_eq_getElem?_getD, List.getElem?_drop]
theorem or_place (x y n : Nat) (hn : n < 8) (hx : x < 256 ^ n) (hy : y < 256) : Go.bits .or .u64 (x : Int) ((y * 256 ^ n : Nat) : Int) = ((x + 256 ^ n * y : Nat) : Int) := by
 have h3 : (2 : Nat) ^ (8 * n) = 256 ^ n := by rw [Nat.pow_mul]
 have hp : 256 ^ n ≤ 72057594037927936 := Nat.le_trans (Nat.pow_le_pow_right (by decide) (show n ≤ 7 by omega)) (by decide)
 have hm : y * 256 ^ n ≤ 255 * 72057594037927936 := Nat.mul_le_mul (by omega) hp
 rw [bits_or _ _ (by omega) (by omega)]
 have := Nat.two_pow_add_eq_or_of_lt (i := 8 * n) (b := x) (by rw [h3]; exact hx) y
 rw [h3] at this
 rw [Nat.or_comm, Nat.mul_comm y, ← this]
 omega

/-- The first place of a list whose byte fails a test: its index, or the length. -/
def first (p : Nat → Bool) : List Nat → Nat
 | [] => 0
 | b :: r => if p b then 0 else 1 + first p r
theorem ctz_even (f x : Nat) : Lib.ctzFrom (f + 1) (2 * x) = 1 + Lib.ctzFrom f x := by
 show (if (2 * x) % 2 = 1 then 0 else 1 + Lib.ctzFrom f ((2 * x) / 2)) = _
 rw [if_neg (by omega), show (2 * x) / 2 = x by omega]
theorem ctz_odd (f x : Nat) : Lib.ctzFrom (f + 1) (2 * x + 1) = 0 := by
 show (if (2 * x + 1) % 2 = 1 then 0 else 1 + Lib.ctzFrom f ((2 * x + 1) / 2)) = _
 rw [if_pos (by omega)]
theorem ctz_256 (m x : Nat) : Lib.ctzFrom (m + 8) (0 + 256 * x) = 8 + Lib.ctzFrom m x := by
 have h := fun (f y : Nat) => ctz_even f y
 rw [show 0 + 256 * x = 2 * (2 * (2 * (2 * (2 * (2 * (2 * (2 * x))))))) by omega, show m + 8 = m + 7 + 1 from rfl, h, show m + 7 = m + 6 + 1 from rfl, h, show m + 6 = m + 5 + 1 from rfl, h, show m + 5 = m + 4 + 1 from rfl, h, show m + 4 = m + 3 + 1 from rfl, h, show m + 3 = m + 2 + 1 from rfl, h, show m + 2 = m + 1 + 1 from rfl, h, h]
 omega
theorem ctz_128 (m x : Nat) : Lib.ctzFrom (m + 8) (128 + 256 * x) = 7 := by
 have h := fun (f y : Nat) => ctz_even f y
 rw [show 128 + 256 * x = 2 * (2 * (2 * (2 * (2 * (2 * (2 * (2 * x + 1))))))) by omega, show m + 8 = m + 7 + 1 from rfl, h, show m + 7 = m + 6 + 1 from rfl, h, show m + 6 = m + 5 + 1 from rfl, h, show m + 5 = m + 4 + 1 from rfl, h, show m + 4 = m + 3 + 1 from rfl, h, show m + 3 = m + 2 + 1 from rfl, h, show m + 2 = m + 1 + 1 from rfl, h, ctz_odd]
/-- A word that has the top bits of just the bytes that pass a test (at least up to the first one). -/
theorem ctz_first (p : Nat → Bool) : ∀ (l : List Nat) (f : Nat → Nat), (∀ b, f b = if p b then 128 else 0) → hw (l.map f) ≠ 0 → ∀ n, 8 * l.length ≤ n → Lib.ctzFrom n (hw (l.map f)) / 8 = first p l := by
 intro l f hf
 induction l with
 | nil => intro h; simp [hw] at h
 | cons b r ih =>
  intro h n hn
  simp only [List.length_cons] at hn
  simp only [List.map_cons, hw] at h ⊢
  unfold first
  by_cases hp : p b = true
  ·rw [if_pos hp]
   rw [hf b, if_pos hp]
   obtain ⟨m, rfl⟩ : ∃ m, n = m + 8 := ⟨n - 8, by omega⟩
   have e : Lib.ctzFrom (m + 8) (128 + 256 * hw (r.map f)) = 7 := ctz_128 m _
   rw [e]
  ·rw [if_neg hp]
   have h0 : f b = 0 := by rw [hf b, if_neg hp]
   rw [h0] at h ⊢
   have hr : hw (r.map f) ≠ 0 := by omega
   obtain ⟨m, rfl⟩ : ∃ m, n = m + 8 := ⟨n - 8, by omega⟩
   have e : Lib.ctzFrom (m + 8) (0 + 256 * hw (r.map f)) = 8 + Lib.ctzFrom m (hw (r.map f)) := ctz_256 m _
   rw [e]
   have := ih hr m (by omega)
   omega
theorem hw_zero (p : Nat → Bool) (l : List Nat) (f : Nat → Nat) (hf : ∀ b, f b = if p b then 128 else 0) (h : hw (l.map f) = 0) : first p l = l.length := by
 induction l with
 | nil => rfl
 | cons b r ih =>
  simp only [List.map_cons, hw] at h
  have hb : f b = 0 := by omega
  have hp : ¬ p b = true := fun hp => by rw [hf b, if_pos hp] at hb; omega
  unfold first
  rw [if_neg hp, ih (by omega), List.length_cons]
  omega
theorem first_le (p : Nat → Bool) (l : List Nat) : first p l ≤ l.length := by
 induction l with
 | nil => exact Nat.le_refl _
 | cons b r ih => unfold first; split <;> simp <;> omega
end Go.Proofs.YtbikiibpjdiaaaaDoor.Dig
/- What a number of RFC 8259 is, over lists of bytes, place by place: the longest one that begins them, or where it is invalid; plain definitions. -/
namespace Go.Proofs.YtbikiibpjdiaaaaDoor.Dig
open Go.RowKit Go.Proofs.YtbikiibpjdiaaaaDoorW.PrintWords Go.Proofs.YtbikiibpjdiaaaaDoorW.PrintLast Go.Proofs.YtbikiibpjdiaaaaDoorW.PrintMore
/-- Where the digits from a place on end. -/
def dEnd (l : List Int) (i : Nat) : Nat := runEnd l (l.length - i) i
def r6 (l : List Int) (i : Nat) : Nat × Nat := if dEnd l i = i then (i, 3) else (dEnd l i, 0)
def r5 (l : List Int) (i : Nat) (b : Bool) : Nat × Nat := if b then (if i + 1 < l.length ∧ (rd l ((i + 1 : Nat) : Int) = 43 ∨ rd l ((i + 1 : Nat) : Int) = 45) then r6 l (i + 2) else r6 l (i + 1)) else (i, 0)
def r4 (l : List Int) (i : Nat) : Nat × Nat := r5 l i (decide (i < l.length ∧ (rd l (i : Int) = 101 ∨ rd l (i : Int) = 69)))
def r3 (l : List Int) (i : Nat) (b : Bool) : Nat × Nat := if b then (if dEnd l (i + 1) = i + 1 then (i + 1, 2) else r4 l (dEnd l (i + 1))) else r4 l i
def r2 (l : List Int) (i : Nat) : Nat × Nat := r3 l i (decide (i < l.length ∧ rd l (i : Int) = 46))
def r1 (l : List Int) (i : Nat) : Nat × Nat := if dEnd l i = i then (i, 1) else if rd l (i : Int) = 48 then r2 l (i + 1) else r2 l (dEnd l i)
/-- The longest number that begins bytes, and 0; or where it is invalid, and 1, 2 or 3. -/
def scanNum (l : List Int) : Nat × Nat := if 0 < l.length ∧ rd l 0 = 45 then r1 l 1 else r1 l 0
def z2 (p : Nat × Nat) : Int × Int := ((p.1 : Int), (p.2 : Int))
theorem dEnd_step (l : List Int) (i : Nat) (h : i < l.length) : dEnd l i = if isD (rd l (i : Int)) = true then dEnd l (i + 1) else i := by
 unfold dEnd
 obtain ⟨d, hd⟩ : ∃ d, l.length - i = d + 1 := ⟨l.length - i - 1, by omega⟩
 rw [hd, show l.length - (i + 1) = d by omega]
 rfl
theorem dEnd_end (l : List Int) (i : Nat) (h : l.length ≤ i) : dEnd l i = i := by unfold dEnd; rw [show l.length - i = 0 by omega]; rfl
theorem dEnd_ge (l : List Int) (i : Nat) (h : i ≤ l.length) : i ≤ dEnd l i ∧ dEnd l i ≤ l.length := by
 have := runEnd_ge l (l.length - i) i
 unfold dEnd; omega
theorem dEnd_gt (l : List Int) (i : Nat) (h : i < l.length) (hd : isD (rd l (i : Int)) = true) : i < dEnd l i := by
 rw [dEnd_step l i h, if_pos hd]
 have := dEnd_ge l (i + 1) (by omega)
 omega
theorem isD_iff (c : Int) : isD c = true ↔ 48 ≤ c ∧ c ≤ 57 := by simp [isD]
end Go.Proofs.YtbikiibpjdiaaaaDoor.Dig
/- The first byte of a word that is a quote, a backslash or a control sign, by subtractions: what the word's mask is; plain lemmas over numbers. -/
namespace Go.Proofs.YtbikiibpjdiaaaaDoor.Key
open Go.Proofs.YtbikiibpjdiaaaaDoor.Swar Go.Proofs.YtbikiibpjdiaaaaDoor.Dig
/-- One subtraction's part of the mask: of the n bytes of F, those that are below c have their top bits, up to the first one. -/
def comp (n F c : Nat) : Nat := ((F + 256 ^ n - hw (List.replicate n c)) % 256 ^ n) &&& (256 ^ n - 1 - F)
theorem rep_lt (n c : Nat) (hc : c < 256) : hw (List.replicate n c) < 256 ^ n := by
 have := hw_lt (List.replicate n c) (fun x hx => by rw [List.mem_replicate] at hx; omega)
 rwa [List.length_replicate] at this
theorem comp_ok (n b F c : Nat) (hb : b < 256) (hF : F < 256 ^ n) (hc : c ≤ b) : comp (n + 1) (b + 256 * F) c = ((b - c) &&& (255 - b)) + 256 * comp n F c := by
 unfold comp
 have hr := rep_lt n c (by omega)
 have e1 : hw (List.replicate (n + 1) c) = c + 256 * hw (List.replicate n c) := rfl
 rw [e1, Nat.pow_succ]
 generalize hw (List.replicate n c) = R at *
 generalize 256 ^ n = P at *
 have e2 : (b + 256 * F + P * 256 - (c + 256 * R)) % (P * 256) = (b - c) + 256 * ((F + P - R) % P) := by
  have h1 : b + 256 * F + P * 256 - (c + 256 * R) = (b - c) + 256 * (F + P - R) := by omega
  rw [h1, Nat.mul_comm P 256, Nat.mod_mul, Nat.add_mul_mod_self_left, Nat.mod_eq_of_lt (by omega : b - c < 256), Nat.add_mul_div_left _ _ (by decide), Nat.div_eq_of_lt (by omega : b - c < 256), Nat.zero_add]
 have e3 : P * 256 - 1 - (b + 256 * F) = (255 - b) + 256 * (P - 1 - F) := by omega
 rw [e2, e3]
 exact and_step _ _ _ _ (by omega) (by omega)
theorem comp_bad (n b F c : Nat) (hc : c < 256) (hF : F < 256 ^ n) (hb : b < c) : ∃ X, comp (n + 1) (b + 256 * F) c = ((b + 256 - c) &&& (255 - b)) + 256 * X := by
 unfold comp
 have hr := rep_lt n c hc
 have e1 : hw (List.replicate (n + 1) c) = c + 256 * hw (List.replicate n c) := rfl
 rw [e1, Nat.pow_succ]
 generalize hw (List.replicate n c) = R at *
 generalize 256 ^ n = P at *
 have e2 : (b + 256 * F + P * 256 - (c + 256 * R)) % (P * 256) = (b + 256 - c) + 256 * ((F + P - R - 1) % P) := by
  have h1 : b + 256 * F + P * 256 - (c + 256 * R) = (b + 256 - c) + 256 * (F + P - R - 1) := by omega
  rw [h1, Nat.mul_comm P 256, Nat.mod_mul, Nat.add_mul_mod_self_left, Nat.mod_eq_of_lt (by omega : b + 256 - c < 256), Nat.add_mul_div_left _ _ (by decide), Nat.div_eq_of_lt (by omega : b + 256 - c < 256), Nat.zero_add]
 have e3 : P * 256 - 1 - (b + 256 * F) = (255 - b) + 256 * (P - 1 - F) := by omega
 rw [e2, e3]
 exact ⟨_, and_step _ _ _ _ (by omega) (by omega)⟩
/-- The mask of a list of bytes. -/
def mask (l : List Nat) : Nat := ((comp l.length (hw (l.map (· ^^^ 34))) 1 ||| comp l.length (hw (l.map (· ^^^ 92))) 1) ||| comp l.length (hw l) 32) &&& hw (List.replicate l.length 128)
def special (b : Nat) : Bool := decide (b = 34 ∨ b = 92 ∨ b < 32)
theorem lane_ok : ∀ b : Fin 256, special b.1 = false → 1 ≤ b.1 ^^^ 34 ∧ 1 ≤ b.1 ^^^ 92 ∧ 32 ≤ b.1 ∧ ((((b.1 ^^^ 34) - 1 &&& 255 - (b.1 ^^^ 34)) ||| ((b.1 ^^^ 92) - 1 &&& 255 - (b.1 ^^^ 92))) ||| (b.1 - 32 &&& 255 - b.1)) &&& 128 = 0 := by decide +kernel
theorem xor_bs (l : List Nat) (m : Nat) (hm : m < 256) (h : Bs l) : Bs (l.map (· ^^^ m)) := by
 intro x hx
 rw [List.mem_map] at hx
 obtain ⟨y, hy, rfl⟩ := hx
 exact Nat.xor_lt_two_pow (n := 8) (h y hy) hm
theorem len_map (l : List Nat) (m : Nat) : (l.map (· ^^^ m)).length = l.length := List.length_map _
theorem mask_ok (b : Nat) (r : List Nat) (h : Bs (b :: r)) (hs : special b = false) : mask (b :: r) = 256 * mask r := by
 have hb := bs_head h
 have hr := bs_tail h
 obtain ⟨h1, h2, h3, h4⟩ := lane_ok ⟨b, hb⟩ hs
 have x1 := Nat.xor_lt_two_pow (n := 8) hb (show 34 < 2 ^ 8 by decide)
 have x2 := Nat.xor_lt_two_pow (n := 8) hb (show 92 < 2 ^ 8 by decide)
 have l1 := hw_lt _ (xor_bs r 34 (by decide) hr)
 have l2 := hw_lt _ (xor_bs r 92 (by decide) hr)
 have l3 := hw_lt _ hr
 rw [len_map] at l1 l2
 unfold mask
 simp only [List.length_cons, List.map_cons]
 rw [show hw ((b ^^^ 34) :: r.map (· ^^^ 34)) = (b ^^^ 34) + 256 * hw (r.map (· ^^^ 34)) from rfl, show hw ((b ^^^ 92) :: r.map (· ^^^ 92)) = (b ^^^ 92) + 256 * hw (r.map (· ^^^ 92)) from rfl, show hw (b :: r) = b + 256 * hw r from rfl, show hw (List.replicate (r.length + 1) 128) = 128 + 256 * hw (List.replicate r.length 128) from rfl]
 rw [comp_ok _ _ _ _ x1 l1 h1, comp_ok _ _ _ _ x2 l2 h2, comp_ok _ _ _ _ hb l3 h3]
 rw [or_step _ _ _ _ (Nat.lt_of_le_of_lt Nat.and_le_right (by omega)) (Nat.lt_of_le_of_lt Nat.and_le_right (by omega))]
 rw [or_step _ _ _ _ (Nat.or_lt_two_pow (n := 8) (Nat.lt_of_le_of_lt Nat.and_le_right (by omega)) (Nat.lt_of_le_of_lt Nat.and_le_right (by omega))) (Nat.lt_of_le_of_lt Nat.and_le_right (by omega))]
 rw [and_step _ _ _ _ (Nat.or_lt_two_pow (n := 8) (Nat.or_lt_two_pow (n := 8) (Nat.lt_of_le_of_lt Nat.and_le_right (by omega)) (Nat.lt_of_le_of_lt Nat.and_le_right (by omega))) (Nat.lt_of_le_of_lt Nat.and_le_right (by omega))) (by decide)]
 rw [h4, Nat.zero_add]
def low (f c : Nat) : Nat := (f + 256 - c) % 256 &&& (255 - f)
theorem comp_low (n b F c : Nat) (hb : b < 256) (hc : c < 256) (hF : F < 256 ^ n) : ∃ X, comp (n + 1) (b + 256 * F) c = low b c + 256 * X := by
 by_cases h : c ≤ b
 ·refine ⟨comp n F c, ?_⟩
  rw [comp_ok n b F c hb hF h]
  unfold low
  rw [show (b + 256 - c) % 256 = b - c by omega]
 ·obtain ⟨X, hX⟩ := comp_bad n b F c hc hF (by omega)
  refine ⟨X, ?_⟩
  rw [hX]
  unfold low
  rw [show (b + 256 - c) % 256 = b + 256 - c by omega]
theorem low_lt (f c : Nat) (hf : f < 256) : low f c < 256 := Nat.lt_of_le_of_lt Nat.and_le_right (by omega)
theorem lane_bad : ∀ b : Fin 256, special b.1 = true → ((low (b.1 ^^^ 34) 1 ||| low (b.1 ^^^ 92) 1) ||| low b.1 32) &&& 128 = 128 := by decide +kernel
theorem mask_bad (b : Nat) (r : List Nat) (h : Bs (b :: r)) (hs : special b = true) : ∃ X, mask (b :: r) = 128 + 256 * X := by
 have hb := bs_head h
 have hr := bs_tail h
 have h4 := lane_bad ⟨b, hb⟩ hs
 have x1 := Nat.xor_lt_two_pow (n := 8) hb (show 34 < 2 ^ 8 by decide)
 have x2 := Nat.xor_lt_two_pow (n := 8) hb (show 92 < 2 ^ 8 by decide)
 have l1 := hw_lt _ (xor_bs r 34 (by decide) hr)
 have l2 := hw_lt _ (xor_bs r 92 (by decide) hr)
 have l3 := hw_lt _ hr
 rw [len_map] at l1 l2
 obtain ⟨X1, e1⟩ := comp_low r.length _ _ 1 x1 (by decide) l1
 obtain ⟨X2, e2⟩ := comp_low r.length _ _ 1 x2 (by decide) l2
 obtain ⟨X3, e3⟩ := comp_low r.length _ _ 32 hb (by decide) l3
 unfold mask
 simp only [List.length_cons, List.map_cons]
 rw [show hw ((b ^^^ 34) :: r.map (· ^^^ 34)) = (b ^^^ 34) + 256 * hw (r.map (· ^^^ 34)) from rfl, show hw ((b ^^^ 92) :: r.map (· ^^^ 92)) = (b ^^^ 92) + 256 * hw (r.map (· ^^^ 92)) from rfl, show hw (b :: r) = b + 256 * hw r from rfl, show hw (List.replicate (r.length + 1) 128) = 128 + 256 * hw (List.replicate r.length 128) from rfl]
 rw [e1, e2, e3, or_step _ _ _ _ (low_lt _ _ x1) (low_lt _ _ x2), or_step _ _ _ _ (Nat.or_lt_two_pow (n := 8) (low_lt _ _ x1) (low_lt _ _ x2)) (low_lt _ _ hb),
  and_step _ _ _ _ (Nat.or_lt_two_pow (n := 8) (Nat.or_lt_two_pow (n := 8) (low_lt _ _ x1) (low_lt _ _ x2)) (low_lt _ _ hb)) (by decide), h4]
 exact ⟨_, rfl⟩
theorem mask_zero : ∀ l : List Nat, Bs l → mask l = 0 → ∀ b, b ∈ l → special b = false
 | [], _, _ => fun b hb => by cases hb
 | a :: r, h, hm => by
  by_cases hs : special a = true
  ·obtain ⟨X, hX⟩ := mask_bad a r h hs
   omega
  ·have hs' : special a = false := by simpa using hs
   rw [mask_ok a r h hs'] at hm
   intro b hb
   rcases List.mem_cons.1 hb with rfl | hb
   ·exact hs'
   ·exact mask_zero r (bs_tail h) (by omega) b hb
/-- The first special byte stands where the mask's lowest bit does. -/
theorem mask_first : ∀ l : List Nat, Bs l → mask l ≠ 0 → ∀ n, 8 * l.length ≤ n → ∃ j, Lib.ctzFrom n (mask l) = 8 * j + 7 ∧ j < l.length ∧ special (l.getD j 0) = true ∧ ∀ i, i < j → special (l.getD i 0) = false
 | [], _, hm => absurd rfl hm
 | a :: r, h, hm => by
  intro n hn
  rw [List.length_cons] at hn
  obtain ⟨m, rfl⟩ : ∃ m, n = m + 8 := ⟨n - 8, by omega⟩
  by_cases hs : special a = true
  ·obtain ⟨X, hX⟩ := mask_bad a r h hs
   rw [hX, ctz_128]
   exact ⟨0, rfl, by rw [List.length_cons]; omega, hs, fun i hi => absurd hi (by omega)⟩
  ·have hs' : special a = false := by simpa using hs
   rw [mask_ok a r h hs'] at hm ⊢
   obtain ⟨j, h1, h2, h3, h4⟩ := mask_first r (bs_tail h) (by omega) m (by omega)
   refine ⟨j + 1, ?_, by rw [List.length_cons]; omega, by simpa using h3, fun i hi => ?_⟩
   ·rw [show 256 * mask r = 0 + 256 * mask r by omega, ctz_256, h1]; omega
   ·cases i with
    | zero => simpa using hs'
    | succ i => simpa using h4 i (by omega)
end Go.Proofs.YtbikiibpjdiaaaaDoor.Key
