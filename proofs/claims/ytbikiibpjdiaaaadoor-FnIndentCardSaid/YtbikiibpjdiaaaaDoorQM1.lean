-- squeezed
-- Written by a program of this session (wip/tools/myprint.py) out of Lean's own print of the translation.
import Derived.Test.YtbikiibpjdiaaaaDoorQM0
namespace Go.Proofs.YtbikiibpjdiaaaaDoor.QM
open Go.RowKit Go.Proofs.YtbikiibpjdiaaaaDoorW.PrintWords Go.Proofs.YtbikiibpjdiaaaaDoorW.PrintLast Go.Proofs.YtbikiibpjdiaaaaDoorW.PrintMore
attribute [local go_sem] max2_int min2_int max_two min_two max_three min_three max_four min_four   -- for this text's walks alone
open Go.Proofs.YtbikiibpjdiaaaaDoor.Tab
set_option linter.unusedVariables false
set_option linter.unusedSimpArgs false

/-! ### spec_Same: function 16 -/
def spec_Same.f (l0 : List Int) (l1 : List Int) : Option (Bool) := some ((strOfNums l0).toList == (strOfNums l1).toList)
set_option maxHeartbeats 8000000 in
set_option maxRecDepth 100000 in
theorem spec_Same.calls (A0 : Option Addr) (c0 : Nat) (l0 : List Int) (A1 : Option Addr) (c1 : Nat) (l1 : List Int) (r : Bool) (w : World) (hr0 : Kd.C (Kd.int .u8) w A0 l0.length l0) (hc0 : l0.length ≤ c0) (hr1 : Kd.C (Kd.int .u8) w A1 l1.length l1) (hc1 : l1.length ≤ c1) (h : spec_Same.f l0 l1 = some r) :
  Calls Tryd.prog 16 #[.slice A0 l0.length c0, .slice A1 l1.length c1] w fun e w' => e = .returned (.bool r) ∧ Drawn0 w w' := by
 have HR0 := Aside0.mk hr0
 have HC0 := Aside0.mk hc0
 clear hr0 hc0
 have HR1 := Aside0.mk hr1
 have HC1 := Aside0.mk hc1
 clear hr1 hc1
 have H : (some ((strOfNums l0).toList == (strOfNums l1).toList)) = some r := h
 clear h
 obtain rfl := Option.some.inj H
 have hcv3 := Kd.C_string (P := Tryd.prog) (A := A0) (c := c0) Tryd.underlying22 Tryd.underlying5 Tryd.underlying9 HR0.out
 have hcv4 := Kd.C_string (P := Tryd.prog) (A := A1) (c := c1) Tryd.underlying22 Tryd.underlying5 Tryd.underlying9 HR1.out
 go_enter Tryd.func16, Tryd.ntmps16
 go_wp2
 go_ret
 exact ⟨by first | rfl | (simp; done) | (simp [*]; done) | (simp [wrap64]; done), by repeat (first | exact Drawn0.refl _ | apply Drawn0.step)⟩

/-- THE ONE PURE STATEMENT of spec_Same: yours. -/
def spec_Same.Pure : Prop := ∀ (l0 : List Int) (l1 : List Int), l0.length ≤ maxLen → l0.length * 1 ≤ 140737488351232 → (∀ x ∈ l0, (Lit.int .u8 x).wf = true) → l1.length ≤ maxLen → l1.length * 1 ≤ 140737488351232 → (∀ x ∈ l1, (Lit.int .u8 x).wf = true) → spec_Same.f l0 l1 = some true
theorem spec_Same.walk (P : spec_Same.Pure) (a0 : Option Addr) (len0 cap0 : Nat) (z0 : List Int) (a1 : Option Addr) (len1 cap1 : Nat) (z1 : List Int) (w : World) (w0 : (a0 = none ∧ len0 = 0 ∧ cap0 = 0 ∧ z0 = []) ∨ ∃ x, a0 = some x ∧ len0 ≤ cap0 ∧ cap0 ≤ maxLen ∧ z0.length = cap0 ∧ (∀ i, i < z0.length → w.cell? (x.add i) = some (.int .u8 (z0.getD i 0))) ∧ ∀ n ∈ z0, (Lit.int .u8 n).wf = true) (y0 : len0 * 1 ≤ 140737488351232) (w1 : (a1 = none ∧ len1 = 0 ∧ cap1 = 0 ∧ z1 = []) ∨ ∃ x, a1 = some x ∧ len1 ≤ cap1 ∧ cap1 ≤ maxLen ∧ z1.length = cap1 ∧ (∀ i, i < z1.length → w.cell? (x.add i) = some (.int .u8 (z1.getD i 0))) ∧ ∀ n ∈ z1, (Lit.int .u8 n).wf = true) (y1 : len1 * 1 ≤ 140737488351232) :
  Calls Tryd.prog 16 #[.slice a0 len0 cap0, .slice a1 len1 cap1] w fun e w' => e = .returned (.bool true) ∧ Below w.heap.size w w' := by
 obtain ⟨l0, rfl, hr0, hm0, hw0, hc0⟩ := ReadsInt.ofRowC w0
 obtain ⟨l1, rfl, hr1, hm1, hw1, hc1⟩ := ReadsInt.ofRowC w1
 have h := P l0 l1 hm0 y0 hw0 hm1 y1 hw1
 refine (spec_Same.calls _ _ l0 _ _ l1 true w (Kd.C_of_reads (d := (0 : Int)) (h1 := fun _ => rfl) hr0) hc0 (Kd.C_of_reads (d := (0 : Int)) (h1 := fun _ => rfl) hr1) hc1 h).mono ?_
 rintro e w' ⟨rfl, hd⟩
 exact ⟨rfl, hd.below⟩

/-! ### spec_FirstOf: function 31 -/
def spec_FirstOf.l0 : Nat → Int → List Int → Int → Int → Option (Int)
 | 0, _, _, _, _ => none
 | k + 1, x1, x7, x8, x9 => if x9 < x8 then (if 0 ≤ x9 then (if x9 < (x7.length : Int) then (if (rd x7 x9) = x1 then (some x9) else (spec_FirstOf.l0 k x1 x7 x8 (wrap64 (x9 + 1)))) else (none)) else (none)) else (some (-1))
def spec_FirstOf.f (k : Nat) (l0 : List Int) (a1 : Int) : Option (Int) := spec_FirstOf.l0 k a1 l0 (l0.length : Int) 0
theorem spec_FirstOf.mono_l : ∀ k, (∀ y0 y1 y2 y3, LeO (spec_FirstOf.l0 k y0 y1 y2 y3) (spec_FirstOf.l0 (k + 1) y0 y1 y2 y3))
 | 0 => fun _ _ _ _ r h => by simp [spec_FirstOf.l0] at h
 | k + 1 => by
  have ih0 := spec_FirstOf.mono_l k
  ·intro y0 y1 y2 y3
   unfold spec_FirstOf.l0
   repeat' first
   | (with_reducible exact ih0 _ _ _ _)
   | (with_reducible exact LeO.refl _)
   | (with_reducible exact LeO.none _)
   | (with_reducible refine LeO.ite ?_ ?_)
   | (with_reducible refine LeO.bind ?_ (fun _ => ?_))
   | exact ih0 _ _ _ _
   | exact LeO.none _
   | refine LeO.ite ?_ ?_
   | refine LeO.bind ?_ (fun _ => ?_)
theorem spec_FirstOf.mono : ∀ a0 a1 k, LeO (spec_FirstOf.f k a0 a1) (spec_FirstOf.f (k + 1) a0 a1) := by
 intro a0 a1 k
 have ih0 := spec_FirstOf.mono_l k
 unfold spec_FirstOf.f
 repeat' first
   | (with_reducible exact ih0 _ _ _ _)
   | (with_reducible exact LeO.refl _)
   | (with_reducible exact LeO.none _)
   | (with_reducible refine LeO.ite ?_ ?_)
   | (with_reducible refine LeO.bind ?_ (fun _ => ?_))
   | exact ih0 _ _ _ _
   | exact LeO.none _
   | refine LeO.ite ?_ ?_
   | refine LeO.bind ?_ (fun _ => ?_)
set_option maxHeartbeats 8000000 in
set_option maxRecDepth 100000 in
theorem spec_FirstOf.calls (k : Nat) (A0 : Option Addr) (c0 : Nat) (l0 : List Int) (a1 : Int) (r : Int) (w : World) (hr0 : Kd.C (Kd.int .u8) w A0 l0.length l0) (hc0 : l0.length ≤ c0) (h : spec_FirstOf.f k l0 a1 = some r) :
  Calls Tryd.prog 31 #[.slice A0 l0.length c0, .int .u8 a1] w fun e w' => e = .returned (.int .i64 r) ∧ Drawn0 w w' := by
 have HR0 := Aside0.mk hr0
 have HC0 := Aside0.mk hc0
 clear hr0 hc0
 have H : (spec_FirstOf.l0 k a1 l0 (l0.length : Int) 0) = some r := h
 clear h
 have H' := Aside0.mk H
 clear H
 go_enter Tryd.func31, Tryd.ntmps31
 go_wp2
 go_loopg [9] k (fun kq v9 w' => ∃ (x9_1 : Int), v9 = .int .i64 x9_1 ∧ Aside0 (spec_FirstOf.l0 kq a1 l0 (l0.length : Int) x9_1 = some r) ∧ Aside0 (kq ≤ k) ∧ Drawn0 w w')
 case atStart => exact ⟨(0), (by first | rfl | (simp; done) | (simp [*]; done) | (simp [wrap64]; done)), H', ⟨Nat.le_refl _⟩, by repeat (first | exact Drawn0.refl _ | apply Drawn0.step)⟩
 case round =>
  clear H'
  try clear p2
  obtain ⟨x9_1, rfl, HA, HK1, ⟨m1, rfl⟩⟩ := hrel
  cases gk with
  | zero => exact absurd HA.out (by simp [spec_FirstOf.l0])
  | succ k1 =>
   have H := HA.out
   clear HA
   simp only [spec_FirstOf.l0] at H
   by_cases c3 : x9_1 < (l0.length : Int)
   ·rw [if_pos c3] at H
    have c3b0 : decide (x9_1 < (l0.length : Int)) = true := decide_eq_true c3
    clear c3
    by_cases c4 : 0 ≤ x9_1
    ·rw [if_pos c4] at H
     have c4b0 : decide (0 ≤ x9_1) = true := decide_eq_true c4
     clear c4
     by_cases c5 : x9_1 < (l0.length : Int)
     ·rw [if_pos c5] at H
      have c5b0 : decide (x9_1 < (l0.length : Int)) = true := decide_eq_true c5
      clear c5
      by_cases c6 : (rd l0 x9_1) = a1
      ·rw [if_pos c6] at H
       have c6b0 : ((rd l0 x9_1) == a1) = true := beq_iff_eq.mpr c6
       have c6b1 : ((rd l0 x9_1) != a1) = false := bne_eq_false_iff_eq.mpr c6
       clear c6
       obtain rfl := Option.some.inj H
       have p101 : 0 ≤ (x9_1 : Int) := of_decide_eq_true (by first | (with_reducible assumption) | assumption)
       have q101 : x9_1 < (l0.length : Int) := of_decide_eq_true (by first | (with_reducible assumption) | assumption)
       obtain ⟨ad101, e101, hx101_0⟩ := Kd.at_int HR0.out x9_1 p101 q101
       cases e101
       replace p101 := eq_true p101
       replace q101 := eq_true q101
       go_wp2
       go_ret
       exact ⟨by first | rfl | (simp; done) | (simp [*]; done) | (simp [wrap64]; done), by repeat (first | exact Drawn0.refl _ | apply Drawn0.step)⟩
      ·rw [if_neg c6] at H
       have c6b0 : ((rd l0 x9_1) == a1) = false := beq_eq_false_iff_ne.mpr c6
       have c6b1 : ((rd l0 x9_1) != a1) = true := bne_iff_ne.mpr c6
       have H' := Aside0.mk H
       clear H
       have p101 : 0 ≤ (x9_1 : Int) := of_decide_eq_true (by first | (with_reducible assumption) | assumption)
       have q101 : x9_1 < (l0.length : Int) := of_decide_eq_true (by first | (with_reducible assumption) | assumption)
       obtain ⟨ad101, e101, hx101_0⟩ := Kd.at_int HR0.out x9_1 p101 q101
       cases e101
       replace p101 := eq_true p101
       replace q101 := eq_true q101
       go_wp2
       go_roundg k1
       case measure => have := HK1.out; omega
       case rel => exact ⟨(wrap64 (x9_1 + 1)), (by first | rfl | (simp; done) | (simp [*]; done) | (simp [wrap64]; done)), H', ⟨by have := HK1.out; omega⟩, by repeat (first | exact Drawn0.refl _ | apply Drawn0.step)⟩
     ·rw [if_neg c5] at H
      exact absurd H (by simp)
    ·rw [if_neg c4] at H
     exact absurd H (by simp)
   ·rw [if_neg c3] at H
    have c3b0 : decide (x9_1 < (l0.length : Int)) = false := decide_eq_false c3
    clear c3
    obtain rfl := Option.some.inj H
    go_wp2
    go_ret
    exact ⟨by first | rfl | (simp; done) | (simp [*]; done) | (simp [wrap64]; done), by repeat (first | exact Drawn0.refl _ | apply Drawn0.step)⟩

/-! ### spec_IsHigh: function 30 -/
def spec_IsHigh.l0 : Nat → List Int → Int → Int → Option (Bool)
 | 0, _, _, _ => none
 | k + 1, x5, x6, x7 => if x7 < x6 then (if 0 ≤ x7 then (if x7 < (x5.length : Int) then (if (rd x5 x7) < 32 then (some false) else (spec_IsHigh.l0 k x5 x6 (wrap64 (x7 + 1)))) else (none)) else (none)) else (some true)
def spec_IsHigh.f (k : Nat) (l0 : List Int) : Option (Bool) := spec_IsHigh.l0 k l0 (l0.length : Int) 0
theorem spec_IsHigh.mono_l : ∀ k, (∀ y0 y1 y2, LeO (spec_IsHigh.l0 k y0 y1 y2) (spec_IsHigh.l0 (k + 1) y0 y1 y2))
 | 0 => fun _ _ _ r h => by simp [spec_IsHigh.l0] at h
 | k + 1 => by
  have ih0 := spec_IsHigh.mono_l k
  ·intro y0 y1 y2
   unfold spec_IsHigh.l0
   repeat' first
   | (with_reducible exact ih0 _ _ _)
   | (with_reducible exact LeO.refl _)
   | (with_reducible exact LeO.none _)
   | (with_reducible refine LeO.ite ?_ ?_)
   | (with_reducible refine LeO.bind ?_ (fun _ => ?_))
   | exact ih0 _ _ _
   | exact LeO.none _
   | refine LeO.ite ?_ ?_
   | refine LeO.bind ?_ (fun _ => ?_)
theorem spec_IsHigh.mono : ∀ a0 k, LeO (spec_IsHigh.f k a0) (spec_IsHigh.f (k + 1) a0) := by
 intro a0 k
 have ih0 := spec_IsHigh.mono_l k
 unfold spec_IsHigh.f
 repeat' first
   | (with_reducible exact ih0 _ _ _)
   | (with_reducible exact LeO.refl _)
   | (with_reducible exact LeO.none _)
   | (with_reducible refine LeO.ite ?_ ?_)
   | (with_reducible refine LeO.bind ?_ (fun _ => ?_))
   | exact ih0 _ _ _
   | exact LeO.none _
   | refine LeO.ite ?_ ?_
   | refine LeO.bind ?_ (fun _ => ?_)
set_option maxHeartbeats 8000000 in
set_option maxRecDepth 100000 in
theorem spec_IsHigh.calls (k : Nat) (A0 : Option Addr) (c0 : Nat) (l0 : List Int) (r : Bool) (w : World) (hr0 : Kd.C (Kd.int .u8) w A0 l0.length l0) (hc0 : l0.length ≤ c0) (h : spec_IsHigh.f k l0 = some r) :
  Calls Tryd.prog 30 #[.slice A0 l0.length c0] w fun e w' => e = .returned (.bool r) ∧ Drawn0 w w' := by
 have HR0 := Aside0.mk hr0
 have HC0 := Aside0.mk hc0
 clear hr0 hc0
 have H : (spec_IsHigh.l0 k l0 (l0.length : Int) 0) = some r := h
 clear h
 have H' := Aside0.mk H
 clear H
 go_enter Tryd.func30, Tryd.ntmps30
 go_wp2
 go_loopg [7] k (fun kq v7 w' => ∃ (x7_1 : Int), v7 = .int .i64 x7_1 ∧ Aside0 (spec_IsHigh.l0 kq l0 (l0.length : Int) x7_1 = some r) ∧ Aside0 (kq ≤ k) ∧ Drawn0 w w')
 case atStart => exact ⟨(0), (by first | rfl | (simp; done) | (simp [*]; done) | (simp [wrap64]; done)), H', ⟨Nat.le_refl _⟩, by repeat (first | exact Drawn0.refl _ | apply Drawn0.step)⟩
 case round =>
  clear H'
  obtain ⟨x7_1, rfl, HA, HK1, ⟨m1, rfl⟩⟩ := hrel
  cases gk with
  | zero => exact absurd HA.out (by simp [spec_IsHigh.l0])
  | succ k1 =>
   have H := HA.out
   clear HA
   simp only [spec_IsHigh.l0] at H
   by_cases c2 : x7_1 < (l0.length : Int)
   ·rw [if_pos c2] at H
    have c2b0 : decide (x7_1 < (l0.length : Int)) = true := decide_eq_true c2
    clear c2
    by_cases c3 : 0 ≤ x7_1
    ·rw [if_pos c3] at H
     have c3b0 : decide (0 ≤ x7_1) = true := decide_eq_true c3
     clear c3
     by_cases c4 : x7_1 < (l0.length : Int)
     ·rw [if_pos c4] at H
      have c4b0 : decide (x7_1 < (l0.length : Int)) = true := decide_eq_true c4
      clear c4
      by_cases c5 : (rd l0 x7_1) < 32
      ·rw [if_pos c5] at H
       have c5b0 : decide ((rd l0 x7_1) < 32) = true := decide_eq_true c5
       clear c5
       obtain rfl := Option.some.inj H
       have p102 : 0 ≤ (x7_1 : Int) := of_decide_eq_true (by first | (with_reducible assumption) | assumption)
       have q102 : x7_1 < (l0.length : Int) := of_decide_eq_true (by first | (with_reducible assumption) | assumption)
       obtain ⟨ad102, e102, hx102_0⟩ := Kd.at_int HR0.out x7_1 p102 q102
       cases e102
       replace p102 := eq_true p102
       replace q102 := eq_true q102
       go_wp2
       go_ret
       exact ⟨by first | rfl | (simp; done) | (simp [*]; done) | (simp [wrap64]; done), by repeat (first | exact Drawn0.refl _ | apply Drawn0.step)⟩
      ·rw [if_neg c5] at H
       have c5b0 : decide ((rd l0 x7_1) < 32) = false := decide_eq_false c5
       clear c5
       have H' := Aside0.mk H
       clear H
       have p102 : 0 ≤ (x7_1 : Int) := of_decide_eq_true (by first | (with_reducible assumption) | assumption)
       have q102 : x7_1 < (l0.length : Int) := of_decide_eq_true (by first | (with_reducible assumption) | assumption)
       obtain ⟨ad102, e102, hx102_0⟩ := Kd.at_int HR0.out x7_1 p102 q102
       cases e102
       replace p102 := eq_true p102
       replace q102 := eq_true q102
       go_wp2
       go_roundg k1
       case measure => have := HK1.out; omega
       case rel => exact ⟨(wrap64 (x7_1 + 1)), (by first | rfl | (simp; done) | (simp [*]; done) | (simp [wrap64]; done)), H', ⟨by have := HK1.out; omega⟩, by repeat (first | exact Drawn0.refl _ | apply Drawn0.step)⟩
     ·rw [if_neg c4] at H
      exact absurd H (by simp)
    ·rw [if_neg c3] at H
     exact absurd H (by simp)
   ·rw [if_neg c2] at H
    have c2b0 : decide (x7_1 < (l0.length : Int)) = false := decide_eq_false c2
    clear c2
    obtain rfl := Option.some.inj H
    go_wp2
    go_ret
    exact ⟨by first | rfl | (simp; done) | (simp [*]; done) | (simp [wrap64]; done), by repeat (first | exact Drawn0.refl _ | apply Drawn0.step)⟩

/-- THE ONE PURE STATEMENT of spec_IsHigh: yours. -/
def spec_IsHigh.Pure : Prop := ∀ (l0 : List Int), l0.length ≤ maxLen → l0.length * 1 ≤ 140737488351232 → (∀ x ∈ l0, (Lit.int .u8 x).wf = true) → ∃ k, spec_IsHigh.f k l0 = some true
theorem spec_IsHigh.walk (P : spec_IsHigh.Pure) (a0 : Option Addr) (len0 cap0 : Nat) (z0 : List Int) (w : World) (w0 : (a0 = none ∧ len0 = 0 ∧ cap0 = 0 ∧ z0 = []) ∨ ∃ x, a0 = some x ∧ len0 ≤ cap0 ∧ cap0 ≤ maxLen ∧ z0.length = cap0 ∧ (∀ i, i < z0.length → w.cell? (x.add i) = some (.int .u8 (z0.getD i 0))) ∧ ∀ n ∈ z0, (Lit.int .u8 n).wf = true) (y0 : len0 * 1 ≤ 140737488351232) :
  Calls Tryd.prog 30 #[.slice a0 len0 cap0] w fun e w' => e = .returned (.bool true) ∧ Below w.heap.size w w' := by
 obtain ⟨l0, rfl, hr0, hm0, hw0, hc0⟩ := ReadsInt.ofRowC w0
 obtain ⟨k, h⟩ := P l0 hm0 y0 hw0
 refine (spec_IsHigh.calls k _ _ l0 true w (Kd.C_of_reads (d := (0 : Int)) (h1 := fun _ => rfl) hr0) hc0 h).mono ?_
 rintro e w' ⟨rfl, hd⟩
 exact ⟨rfl, hd.below⟩

/-! ### spec_escapes: function 41 -/
def spec_escapes.f (l0 : List Int) : Option (ByteArray × Int) := if 0 < (l0.length : Int) then (if (rd l0 0) = 60 then (some ((⟨#[92, 117, 48, 48, 51, 99]⟩ : ByteArray), 1)) else (if (rd l0 0) = 62 then (some ((⟨#[92, 117, 48, 48, 51, 101]⟩ : ByteArray), 1)) else (if (rd l0 0) = 38 then (some ((⟨#[92, 117, 48, 48, 50, 54]⟩ : ByteArray), 1)) else (if (l0.length : Int) ≥ 3 then (if (rd l0 0) = 226 then (if 1 < (l0.length : Int) then (if (rd l0 1) = 128 then (if 2 < (l0.length : Int) then (if (Go.bits .andNot .u8 (rd l0 2) 1) = 168 then ((some (([(56 + (Go.bits .and .u8 (rd l0 2) 1)) % 256] : List Int) : List Int)).bind fun y108 => (if 5 + (strOfNums y108).size ≤ 9223372036854775807 then (some ((⟨#[92, 117, 50, 48, 50]⟩ : ByteArray) ++ (strOfNums y108), 3)) else (none))) else (some ((⟨#[]⟩ : ByteArray), 0))) else (none)) else (some ((⟨#[]⟩ : ByteArray), 0))) else (none)) else (some ((⟨#[]⟩ : ByteArray), 0))) else (some ((⟨#[]⟩ : ByteArray), 0)))))) else (none)
set_option maxHeartbeats 8000000 in
set_option maxRecDepth 100000 in
theorem spec_escapes.calls (A0 : Option Addr) (c0 : Nat) (l0 : List Int) (r1 : ByteArray) (r2 : Int) (w : World) (hr0 : Kd.C (Kd.int .u8) w A0 l0.length l0) (hc0 : l0.length ≤ c0) (h : spec_escapes.f l0 = some (r1, r2)) :
  Calls Tryd.prog 41 #[.slice A0 l0.length c0] w fun e w' => e = .returned (.tuple #[.string r1, .int .i64 r2]) ∧ Below w.heap.size w w' := by
 have HR0 := Aside0.mk hr0
 have HC0 := Aside0.mk hc0
 clear hr0 hc0
 have HB := Aside0.mk (Below.refl w.heap.size w)
 have H : (if 0 < (l0.length : Int) then (if (rd l0 0) = 60 then (some ((⟨#[92, 117, 48, 48, 51, 99]⟩ : ByteArray), 1)) else (if (rd l0 0) = 62 then (some ((⟨#[92, 117, 48, 48, 51, 101]⟩ : ByteArray), 1)) else (if (rd l0 0) = 38 then (some ((⟨#[92, 117, 48, 48, 50, 54]⟩ : ByteArray), 1)) else (if (l0.length : Int) ≥ 3 then (if (rd l0 0) = 226 then (if 1 < (l0.length : Int) then (if (rd l0 1) = 128 then (if 2 < (l0.length : Int) then (if (Go.bits .andNot .u8 (rd l0 2) 1) = 168 then ((some (([(56 + (Go.bits .and .u8 (rd l0 2) 1)) % 256] : List Int) : List Int)).bind fun y108 => (if 5 + (strOfNums y108).size ≤ 9223372036854775807 then (some ((⟨#[92, 117, 50, 48, 50]⟩ : ByteArray) ++ (strOfNums y108), 3)) else (none))) else (some ((⟨#[]⟩ : ByteArray), 0))) else (none)) else (some ((⟨#[]⟩ : ByteArray), 0))) else (none)) else (some ((⟨#[]⟩ : ByteArray), 0))) else (some ((⟨#[]⟩ : ByteArray), 0)))))) else (none)) = some (r1, r2) := h
 clear h
 by_cases c2 : 0 < (l0.length : Int)
 ·rw [if_pos c2] at H
  have c2b0 : decide (0 < (l0.length : Int)) = true := decide_eq_true c2
  have c2b1 : decide (0 < l0.length) = true := decide_eq_true (by omega)
  clear c2
  by_cases c3 : (rd l0 0) = 60
  ·rw [if_pos c3] at H
   have c3b0 : ((rd l0 0) == 60) = true := beq_iff_eq.mpr c3
   have c3b1 : ((rd l0 0) != 60) = false := bne_eq_false_iff_eq.mpr c3
   clear c3
   simp only [Option.some.injEq, Prod.mk.injEq] at H
   obtain ⟨rfl, rfl⟩ := H
   have p103 : 0 ≤ (0 : Int) := (by omega)
   have q103 : 0 < (l0.length : Int) := of_decide_eq_true (by first | (with_reducible assumption) | assumption)
   obtain ⟨ad103, e103, hx103_0⟩ := Kd.at_int HR0.out 0 p103 q103
   cases e103
   have qi103 : (0 < l0.length) = True := eq_true (by omega)
   (try rw [show ((0 : Int)).toNat = 0 from rfl] at hx103_0)
   (try rw [Addr.add_zero'] at hx103_0)
   replace p103 := eq_true p103
   replace q103 := eq_true q103
   go_enter Tryd.func41, Tryd.ntmps41
   go_wp2
   go_ret2
   exact ⟨by first | rfl | (simp [errW_none, errW_some] <;> rfl) | (simp [*, errW_none, errW_some] <;> rfl), by repeat (first | (with_reducible first | exact HB.out | apply below_alloc | apply pw_below_drewN | apply below_drew1) | exact HB.out)⟩
  ·rw [if_neg c3] at H
   have c3b0 : ((rd l0 0) == 60) = false := beq_eq_false_iff_ne.mpr c3
   have c3b1 : ((rd l0 0) != 60) = true := bne_iff_ne.mpr c3
   by_cases c4 : (rd l0 0) = 62
   ·rw [if_pos c4] at H
    have c4b0 : ((rd l0 0) == 62) = true := beq_iff_eq.mpr c4
    have c4b1 : ((rd l0 0) != 62) = false := bne_eq_false_iff_eq.mpr c4
    clear c4
    simp only [Option.some.injEq, Prod.mk.injEq] at H
    obtain ⟨rfl, rfl⟩ := H
    have p103 : 0 ≤ (0 : Int) := (by omega)
    have q103 : 0 < (l0.length : Int) := of_decide_eq_true (by first | (with_reducible assumption) | assumption)
    obtain ⟨ad103, e103, hx103_0⟩ := Kd.at_int HR0.out 0 p103 q103
    cases e103
    have qi103 : (0 < l0.length) = True := eq_true (by omega)
    (try rw [show ((0 : Int)).toNat = 0 from rfl] at hx103_0)
    (try rw [Addr.add_zero'] at hx103_0)
    replace p103 := eq_true p103
    replace q103 := eq_true q103
    go_enter Tryd.func41, Tryd.ntmps41
    go_wp2
    go_ret2
    exact ⟨by first | rfl | (simp [errW_none, errW_some] <;> rfl) | (simp [*, errW_none, errW_some] <;> rfl), by repeat (first | (with_reducible first | exact HB.out | apply below_alloc | apply pw_below_drewN | apply below_drew1) | exact HB.out)⟩
   ·rw [if_neg c4] at H
    have c4b0 : ((rd l0 0) == 62) = false := beq_eq_false_iff_ne.mpr c4
    have c4b1 : ((rd l0 0) != 62) = true := bne_iff_ne.mpr c4
    by_cases c5 : (rd l0 0) = 38
    ·rw [if_pos c5] at H
     have c5b0 : ((rd l0 0) == 38) = true := beq_iff_eq.mpr c5
     have c5b1 : ((rd l0 0) != 38) = false := bne_eq_false_iff_eq.mpr c5
     clear c5
     simp only [Option.some.injEq, Prod.mk.injEq] at H
     obtain ⟨rfl, rfl⟩ := H
     have p103 : 0 ≤ (0 : Int) := (by omega)
     have q103 : 0 < (l0.length : Int) := of_decide_eq_true (by first | (with_reducible assumption) | assumption)
     obtain ⟨ad103, e103, hx103_0⟩ := Kd.at_int HR0.out 0 p103 q103
     cases e103
     have qi103 : (0 < l0.length) = True := eq_true (by omega)
     (try rw [show ((0 : Int)).toNat = 0 from rfl] at hx103_0)
     (try rw [Addr.add_zero'] at hx103_0)
     replace p103 := eq_true p103
     replace q103 := eq_true q103
     go_enter Tryd.func41, Tryd.ntmps41
     go_wp2
     go_ret2
     exact ⟨by first | rfl | (simp [errW_none, errW_some] <;> rfl) | (simp [*, errW_none, errW_some] <;> rfl), by repeat (first | (with_reducible first | exact HB.out | apply below_alloc | apply pw_below_drewN | apply below_drew1) | exact HB.out)⟩
    ·rw [if_neg c5] at H
     have c5b0 : ((rd l0 0) == 38) = false := beq_eq_false_iff_ne.mpr c5
     have c5b1 : ((rd l0 0) != 38) = true := bne_iff_ne.mpr c5
     by_cases c6 : (l0.length : Int) ≥ 3
     ·rw [if_pos c6] at H
      have c6b0 : decide (3 ≤ (l0.length : Int)) = true := decide_eq_true c6
      have c6b1 : decide (3 ≤ l0.length) = true := decide_eq_true (by omega)
      clear c6
      by_cases c7 : (rd l0 0) = 226
      ·rw [if_pos c7] at H
       have c7b0 : ((rd l0 0) == 226) = true := beq_iff_eq.mpr c7
       have c7b1 : ((rd l0 0) != 226) = false := bne_eq_false_iff_eq.mpr c7
       clear c7
       by_cases c8 : 1 < (l0.length : Int)
       ·rw [if_pos c8] at H
        have c8b0 : decide (1 < (l0.length : Int)) = true := decide_eq_true c8
        have c8b1 : decide (1 < l0.length) = true := decide_eq_true (by omega)
        clear c8
        by_cases c9 : (rd l0 1) = 128
        ·rw [if_pos c9] at H
         have c9b0 : ((rd l0 1) == 128) = true := beq_iff_eq.mpr c9
         have c9b1 : ((rd l0 1) != 128) = false := bne_eq_false_iff_eq.mpr c9
         clear c9
         by_cases c10 : 2 < (l0.length : Int)
         ·rw [if_pos c10] at H
          have c10b0 : decide (2 < (l0.length : Int)) = true := decide_eq_true c10
          have c10b1 : decide (2 < l0.length) = true := decide_eq_true (by omega)
          clear c10
          by_cases c11 : (Go.bits .andNot .u8 (rd l0 2) 1) = 168
          ·rw [if_pos c11] at H
           have c11b0 : ((Go.bits .andNot .u8 (rd l0 2) 1) == 168) = true := beq_iff_eq.mpr c11
           have c11b1 : ((Go.bits .andNot .u8 (rd l0 2) 1) != 168) = false := bne_eq_false_iff_eq.mpr c11
           clear c11
           obtain ⟨y108, hy108⟩ : ∃ y_ : List Int, y_ = (([(56 + (Go.bits .and .u8 (rd l0 2) 1)) % 256] : List Int)) := ⟨_, rfl⟩
           replace H : (if 5 + (strOfNums y108).size ≤ 9223372036854775807 then (some ((⟨#[92, 117, 50, 48, 50]⟩ : ByteArray) ++ (strOfNums y108), 3)) else (none)) = some (r1, r2) := by first | (rw [hy108]; with_reducible exact H) | (have H2_ := (Option.bind_some _ _).symm.trans H; rw [hy108]; with_reducible exact H2_) | (have H2_ := (Option.bind_some _ _).symm.trans H; with_reducible exact H2_) | with_reducible exact H | (rw [hy108]; exact H) | exact H
           have Ny108 := Aside0.mk hy108
           clear hy108
           by_cases c12 : 5 + (strOfNums y108).size ≤ 9223372036854775807
           ·rw [if_pos c12] at H
            have c12b0 := eq_true c12
            have c12b1 : decide (5 + (strOfNums y108).size ≤ 9223372036854775807) = true := decide_eq_true c12
            try have c12b2 : (9223372036854775807 < 5 + (strOfNums y108).size) = False := eq_false (Nat.not_lt.2 c12)
            simp only [Option.some.injEq, Prod.mk.injEq] at H
            obtain ⟨rfl, rfl⟩ := H
            have p103 : 0 ≤ (0 : Int) := (by omega)
            have q103 : 0 < (l0.length : Int) := of_decide_eq_true (by first | (with_reducible assumption) | assumption)
            obtain ⟨ad103, e103, hx103_0⟩ := Kd.at_int HR0.out 0 p103 q103
            cases e103
            have qi103 : (0 < l0.length) = True := eq_true (by omega)
            (try rw [show ((0 : Int)).toNat = 0 from rfl] at hx103_0)
            (try rw [Addr.add_zero'] at hx103_0)
            replace p103 := eq_true p103
            replace q103 := eq_true q103
            have p104 : 0 ≤ (0 : Int) := (by omega)
            have q104 : 0 < (l0.length : Int) := of_decide_eq_true (by first | (with_reducible assumption) | assumption)
            obtain ⟨ad104, e104, hx104_0⟩ := Kd.at_int HR0.out 0 p104 q104
            obtain rfl : ad103 = ad104 := (by injection e104)
            have qi104 : (0 < l0.length) = True := eq_true (by omega)
            (try rw [show ((0 : Int)).toNat = 0 from rfl] at hx104_0)
            (try rw [Addr.add_zero'] at hx104_0)
            replace p104 := eq_true p104
            replace q104 := eq_true q104
            have p105 : 0 ≤ (1 : Int) := (by omega)
            have q105 : 1 < (l0.length : Int) := of_decide_eq_true (by first | (with_reducible assumption) | assumption)
            obtain ⟨ad105, e105, hx105_0⟩ := Kd.at_int HR0.out 1 p105 q105
            obtain rfl : ad103 = ad105 := (by injection e105)
            (try simp only [show (1 : Int).toNat = 1 from rfl, Nat.reduceMul, Nat.reduceEqDiff, Go.Addr.add, ↓reduceIte] at hx105_0)
            have qi105 : (1 < l0.length) = True := eq_true (by omega)
            (try rw [show ((1 : Int)).toNat = 1 from rfl] at hx105_0)
            replace p105 := eq_true p105
            replace q105 := eq_true q105
            have p106 : 0 ≤ (2 : Int) := (by omega)
            have q106 : 2 < (l0.length : Int) := of_decide_eq_true (by first | (with_reducible assumption) | assumption)
            obtain ⟨ad106, e106, hx106_0⟩ := Kd.at_int HR0.out 2 p106 q106
            obtain rfl : ad103 = ad106 := (by injection e106)
            (try simp only [show (2 : Int).toNat = 2 from rfl, Nat.reduceMul, Nat.reduceEqDiff, Go.Addr.add, ↓reduceIte] at hx106_0)
            have qi106 : (2 < l0.length) = True := eq_true (by omega)
            (try rw [show ((2 : Int)).toNat = 2 from rfl] at hx106_0)
            replace p106 := eq_true p106
            replace q106 := eq_true q106
            have p107 : 0 ≤ (2 : Int) := (by omega)
            have q107 : 2 < (l0.length : Int) := of_decide_eq_true (by first | (with_reducible assumption) | assumption)
            obtain ⟨ad107, e107, hx107_0⟩ := Kd.at_int HR0.out 2 p107 q107
            obtain rfl : ad103 = ad107 := (by injection e107)
            (try simp only [show (2 : Int).toNat = 2 from rfl, Nat.reduceMul, Nat.reduceEqDiff, Go.Addr.add, ↓reduceIte] at hx107_0)
            have qi107 : (2 < l0.length) = True := eq_true (by omega)
            (try rw [show ((2 : Int)).toNat = 2 from rfl] at hx107_0)
            replace p107 := eq_true p107
            replace q107 := eq_true q107
            go_enter Tryd.func41, Tryd.ntmps41
            go_wp2_with (first | ((with_reducible refine gate_dst (N := 40) rfl ?_); refine Kd.R_lit (Kd.int .u8) _ 5 ?hg (N := 40) ?hd (xs := ([(56 + (Go.bits .and .u8 (rd l0 2) 1)) % 256] : List Int)) (inner := [.int .u8 ((56 + (Go.bits .and .u8 (rd l0 2) 1)) % 256)]) (ok := fun _ => True) (okp := fun _ => True) ?hr ?hp (fun _ hk => hk) trivial (Below.refl _ _) (Nat.le_refl _) (by simp) ?_; (case hd => rfl); (case hg => rfl); (case hr => first | (go_simp; done) | (go_simp; rfl)); (case hp => exact (Reps.one (show Kd.M (Kd.int .u8) _ _ _ ((56 + (Go.bits .and .u8 (rd l0 2) 1)) % 256) [.int .u8 ((56 + (Go.bits .and .u8 (rd l0 2) 1)) % 256)] from rfl) (Reps.none _ _))); intro v109 w13 ho14 hb hg_ hnew_; clear hg_ hnew_; (first | rw [← Ny108.out] at ho14 | (simp only [Int.reduceToNat] at ho14; rw [← Ny108.out] at ho14)); have n0_ := Aside0.mk (Kd.R_lower ho14 (below_size (by repeat (first | (with_reducible first | exact HB.out | apply below_alloc | apply pw_below_drewN | apply below_drew1) | exact HB.out)))); have n1_ := Aside0.mk (below_step (by repeat (first | (with_reducible first | exact HB.out | apply below_alloc | apply pw_below_drewN | apply below_drew1) | exact HB.out)) hb); clear HB; have HO110 := n0_; have HB := n1_; clear n0_ n1_; clear hb ho14; have hcv15 := own_string (P := Tryd.prog) Tryd.underlying22 Tryd.underlying5 Tryd.underlying9 (Kd.own_of_R HO110.out)))
            go_ret2
            exact ⟨by first | rfl | (simp [errW_none, errW_some] <;> rfl) | (simp [*, errW_none, errW_some] <;> rfl), by repeat (first | (with_reducible first | exact HB.out | apply below_alloc | apply pw_below_drewN | apply below_drew1) | exact HB.out)⟩
           ·rw [if_neg c12] at H
            exact absurd H (by simp)
          ·rw [if_neg c11] at H
           have c11b0 : ((Go.bits .andNot .u8 (rd l0 2) 1) == 168) = false := beq_eq_false_iff_ne.mpr c11
           have c11b1 : ((Go.bits .andNot .u8 (rd l0 2) 1) != 168) = true := bne_iff_ne.mpr c11
           simp only [Option.some.injEq, Prod.mk.injEq] at H
           obtain ⟨rfl, rfl⟩ := H
           have p103 : 0 ≤ (0 : Int) := (by omega)
           have q103 : 0 < (l0.length : Int) := of_decide_eq_true (by first | (with_reducible assumption) | assumption)
           obtain ⟨ad103, e103, hx103_0⟩ := Kd.at_int HR0.out 0 p103 q103
           cases e103
           have qi103 : (0 < l0.length) = True := eq_true (by omega)
           (try rw [show ((0 : Int)).toNat = 0 from rfl] at hx103_0)
           (try rw [Addr.add_zero'] at hx103_0)
           replace p103 := eq_true p103
           replace q103 := eq_true q103
           have p104 : 0 ≤ (0 : Int) := (by omega)
           have q104 : 0 < (l0.length : Int) := of_decide_eq_true (by first | (with_reducible assumption) | assumption)
           obtain ⟨ad104, e104, hx104_0⟩ := Kd.at_int HR0.out 0 p104 q104
           obtain rfl : ad103 = ad104 := (by injection e104)
           have qi104 : (0 < l0.length) = True := eq_true (by omega)
           (try rw [show ((0 : Int)).toNat = 0 from rfl] at hx104_0)
           (try rw [Addr.add_zero'] at hx104_0)
           replace p104 := eq_true p104
           replace q104 := eq_true q104
           have p105 : 0 ≤ (1 : Int) := (by omega)
           have q105 : 1 < (l0.length : Int) := of_decide_eq_true (by first | (with_reducible assumption) | assumption)
           obtain ⟨ad105, e105, hx105_0⟩ := Kd.at_int HR0.out 1 p105 q105
           obtain rfl : ad103 = ad105 := (by injection e105)
           (try simp only [show (1 : Int).toNat = 1 from rfl, Nat.reduceMul, Nat.reduceEqDiff, Go.Addr.add, ↓reduceIte] at hx105_0)
           have qi105 : (1 < l0.length) = True := eq_true (by omega)
           (try rw [show ((1 : Int)).toNat = 1 from rfl] at hx105_0)
           replace p105 := eq_true p105
           replace q105 := eq_true q105
           have p106 : 0 ≤ (2 : Int) := (by omega)
           have q106 : 2 < (l0.length : Int) := of_decide_eq_true (by first | (with_reducible assumption) | assumption)
           obtain ⟨ad106, e106, hx106_0⟩ := Kd.at_int HR0.out 2 p106 q106
           obtain rfl : ad103 = ad106 := (by injection e106)
           (try simp only [show (2 : Int).toNat = 2 from rfl, Nat.reduceMul, Nat.reduceEqDiff, Go.Addr.add, ↓reduceIte] at hx106_0)
           have qi106 : (2 < l0.length) = True := eq_true (by omega)
           (try rw [show ((2 : Int)).toNat = 2 from rfl] at hx106_0)
           replace p106 := eq_true p106
           replace q106 := eq_true q106
           go_enter Tryd.func41, Tryd.ntmps41
           go_wp2
           go_ret2
           exact ⟨by first | rfl | (simp [errW_none, errW_some] <;> rfl) | (simp [*, errW_none, errW_some] <;> rfl), by repeat (first | (with_reducible first | exact HB.out | apply below_alloc | apply pw_below_drewN | apply below_drew1) | exact HB.out)⟩
         ·rw [if_neg c10] at H
          exact absurd H (by simp)
        ·rw [if_neg c9] at H
         have c9b0 : ((rd l0 1) == 128) = false := beq_eq_false_iff_ne.mpr c9
         have c9b1 : ((rd l0 1) != 128) = true := bne_iff_ne.mpr c9
         simp only [Option.some.injEq, Prod.mk.injEq] at H
         obtain ⟨rfl, rfl⟩ := H
         have p103 : 0 ≤ (0 : Int) := (by omega)
         have q103 : 0 < (l0.length : Int) := of_decide_eq_true (by first | (with_reducible assumption) | assumption)
         obtain ⟨ad103, e103, hx103_0⟩ := Kd.at_int HR0.out 0 p103 q103
         cases e103
         have qi103 : (0 < l0.length) = True := eq_true (by omega)
         (try rw [show ((0 : Int)).toNat = 0 from rfl] at hx103_0)
         (try rw [Addr.add_zero'] at hx103_0)
         replace p103 := eq_true p103
         replace q103 := eq_true q103
         have p104 : 0 ≤ (0 : Int) := (by omega)
         have q104 : 0 < (l0.length : Int) := of_decide_eq_true (by first | (with_reducible assumption) | assumption)
         obtain ⟨ad104, e104, hx104_0⟩ := Kd.at_int HR0.out 0 p104 q104
         obtain rfl : ad103 = ad104 := (by injection e104)
         have qi104 : (0 < l0.length) = True := eq_true (by omega)
         (try rw [show ((0 : Int)).toNat = 0 from rfl] at hx104_0)
         (try rw [Addr.add_zero'] at hx104_0)
         replace p104 := eq_true p104
         replace q104 := eq_true q104
         have p105 : 0 ≤ (1 : Int) := (by omega)
         have q105 : 1 < (l0.length : Int) := of_decide_eq_true (by first | (with_reducible assumption) | assumption)
         obtain ⟨ad105, e105, hx105_0⟩ := Kd.at_int HR0.out 1 p105 q105
         obtain rfl : ad103 = ad105 := (by injection e105)
         (try simp only [show (1 : Int).toNat = 1 from rfl, Nat.reduceMul, Nat.reduceEqDiff, Go.Addr.add, ↓reduceIte] at hx105_0)
         have qi105 : (1 < l0.length) = True := eq_true (by omega)
         (try rw [show ((1 : Int)).toNat = 1 from rfl] at hx105_0)
         replace p105 := eq_true p105
         replace q105 := eq_true q105
         go_enter Tryd.func41, Tryd.ntmps41
         go_wp2
         go_ret2
         exact ⟨by first | rfl | (simp [errW_none, errW_some] <;> rfl) | (simp [*, errW_none, errW_some] <;> rfl), by repeat (first | (with_reducible first | exact HB.out | apply below_alloc | apply pw_below_drewN | apply below_drew1) | exact HB.out)⟩
       ·rw [if_neg c8] at H
        exact absurd H (by simp)
      ·rw [if_neg c7] at H
       have c7b0 : ((rd l0 0) == 226) = false := beq_eq_false_iff_ne.mpr c7
       have c7b1 : ((rd l0 0) != 226) = true := bne_iff_ne.mpr c7
       simp only [Option.some.injEq, Prod.mk.injEq] at H
       obtain ⟨rfl, rfl⟩ := H
       have p103 : 0 ≤ (0 : Int) := (by omega)
       have q103 : 0 < (l0.length : Int) := of_decide_eq_true (by first | (with_reducible assumption) | assumption)
       obtain ⟨ad103, e103, hx103_0⟩ := Kd.at_int HR0.out 0 p103 q103
       cases e103
       have qi103 : (0 < l0.length) = True := eq_true (by omega)
       (try rw [show ((0 : Int)).toNat = 0 from rfl] at hx103_0)
       (try rw [Addr.add_zero'] at hx103_0)
       replace p103 := eq_true p103
       replace q103 := eq_true q103
       have p104 : 0 ≤ (0 : Int) := (by omega)
       have q104 : 0 < (l0.length : Int) := of_decide_eq_true (by first | (with_reducible assumption) | assumption)
       obtain ⟨ad104, e104, hx104_0⟩ := Kd.at_int HR0.out 0 p104 q104
       obtain rfl : ad103 = ad104 := (by injection e104)
       have qi104 : (0 < l0.length) = True := eq_true (by omega)
       (try rw [show ((0 : Int)).toNat = 0 from rfl] at hx104_0)
       (try rw [Addr.add_zero'] at hx104_0)
       replace p104 := eq_true p104
       replace q104 := eq_true q104
       go_enter Tryd.func41, Tryd.ntmps41
       go_wp2
       go_ret2
       exact ⟨by first | rfl | (simp [errW_none, errW_some] <;> rfl) | (simp [*, errW_none, errW_some] <;> rfl), by repeat (first | (with_reducible first | exact HB.out | apply below_alloc | apply pw_below_drewN | apply below_drew1) | exact HB.out)⟩
     ·rw [if_neg c6] at H
      have c6b0 : decide (3 ≤ (l0.length : Int)) = false := decide_eq_false c6
      have c6b1 : decide (3 ≤ l0.length) = false := decide_eq_false (by omega)
      clear c6
      simp only [Option.some.injEq, Prod.mk.injEq] at H
      obtain ⟨rfl, rfl⟩ := H
      have p103 : 0 ≤ (0 : Int) := (by omega)
      have q103 : 0 < (l0.length : Int) := of_decide_eq_true (by first | (with_reducible assumption) | assumption)
      obtain ⟨ad103, e103, hx103_0⟩ := Kd.at_int HR0.out 0 p103 q103
      cases e103
      have qi103 : (0 < l0.length) = True := eq_true (by omega)
      (try rw [show ((0 : Int)).toNat = 0 from rfl] at hx103_0)
      (try rw [Addr.add_zero'] at hx103_0)
      replace p103 := eq_true p103
      replace q103 := eq_true q103
      go_enter Tryd.func41, Tryd.ntmps41
      go_wp2
      go_ret2
      exact ⟨by first | rfl | (simp [errW_none, errW_some] <;> rfl) | (simp [*, errW_none, errW_some] <;> rfl), by repeat (first | (with_reducible first | exact HB.out | apply below_alloc | apply pw_below_drewN | apply below_drew1) | exact HB.out)⟩
 ·rw [if_neg c2] at H
  exact absurd H (by simp)

/-! ### impl_own: function 26 -/
def impl_own.f (l0 : List Int) : Option (List Int) := (some (([] : List Int) : List Int)).bind fun y111 => (if y111.length + l0.length < 140737488355328 then (some (y111 ++ l0)) else (none))
set_option maxHeartbeats 8000000 in
set_option maxRecDepth 100000 in
theorem impl_own.calls (A0 : Option Addr) (c0 : Nat) (l0 : List Int) (r : List Int) (w : World) (hr0 : Kd.C (Kd.int .u8) w A0 l0.length l0) (hc0 : l0.length ≤ c0) (h : impl_own.f l0 = some r) :
  Calls Tryd.prog 26 #[.slice A0 l0.length c0] w fun e w' => ∃ v0_ : Value, e = .returned (v0_) ∧ Kd.R (Kd.int .u8) 5 w' w.heap.size (fun _ => True) v0_ r ∧ Below w.heap.size w w' := by
 have HR0 := Aside0.mk hr0
 have HC0 := Aside0.mk hc0
 clear hr0 hc0
 have HB := Aside0.mk (Below.refl w.heap.size w)
 have H : ((some (([] : List Int) : List Int)).bind fun y111 => (if y111.length + l0.length < 140737488355328 then (some (y111 ++ l0)) else (none))) = some r := h
 clear h
 obtain ⟨y111, hy111⟩ : ∃ y_ : List Int, y_ = (([] : List Int)) := ⟨_, rfl⟩
 replace H : (if y111.length + l0.length < 140737488355328 then (some (y111 ++ l0)) else (none)) = some r := by first | (rw [hy111]; with_reducible exact H) | (have H2_ := (Option.bind_some _ _).symm.trans H; rw [hy111]; with_reducible exact H2_) | (have H2_ := (Option.bind_some _ _).symm.trans H; with_reducible exact H2_) | with_reducible exact H | (rw [hy111]; exact H) | exact H
 have Ny111 := Aside0.mk hy111
 clear hy111
 by_cases c2 : y111.length + l0.length < 140737488355328
 ·rw [if_pos c2] at H
  have LMc2 := Aside0.mk c2
  clear c2
  obtain ⟨y114, hy114⟩ : ∃ y_ : List Int, y_ = (y111 ++ l0) := ⟨_, rfl⟩
  replace H : (some y114) = some r := by first | (rw [hy114]; with_reducible exact H) | (have H2_ := (Option.bind_some _ _).symm.trans H; rw [hy114]; with_reducible exact H2_) | (have H2_ := (Option.bind_some _ _).symm.trans H; with_reducible exact H2_) | with_reducible exact H | (rw [hy114]; exact H) | exact H
  have Ny114 := Aside0.mk hy114
  clear hy114
  obtain rfl := Option.some.inj H
  go_enter Tryd.func26, Tryd.ntmps26
  go_wp2_with (first | ((with_reducible refine gate_dst (N := 3) rfl ?_); refine Kd.R_lit (Kd.int .u8) _ 5 ?hg (N := 3) ?hd (xs := ([] : List Int)) (inner := []) (ok := fun _ => True) (okp := fun _ => True) ?hr ?hp (fun _ hk => hk) trivial (Below.refl _ _) (Nat.le_refl _) (by simp) ?_; (case hd => rfl); (case hg => rfl); (case hr => first | (go_simp; done) | (go_simp; rfl)); (case hp => exact (Reps.none _ _)); intro v112 w3 ho4 hb hg_ hnew_; clear hg_ hnew_; (first | rw [← Ny111.out] at ho4 | (simp only [Int.reduceToNat] at ho4; rw [← Ny111.out] at ho4)); have n0_ := Aside0.mk (Kd.R_lower ho4 (below_size (by repeat (first | (with_reducible first | exact HB.out | apply below_alloc | apply pw_below_drewN | apply below_drew1) | exact HB.out)))); have n1_ := Aside0.mk (below_step (by repeat (first | (with_reducible first | exact HB.out | apply below_alloc | apply pw_below_drewN | apply below_drew1) | exact HB.out)) hb); clear HB; have HO113 := n0_; have HB := n1_; clear n0_ n1_; clear hb ho4) | ((with_reducible refine gate_builtin (b := .append) (xs := #[.tmp 3, .tmp 4]) rfl ?_); at_builtin; refine Kd.R_append_rows (Kd.int .u8) (w0 := w) w.heap.size rfl (.tmp 3) (.tmp 4) 22 5 (.int .u8 0) 1 rfl Tryd.underlying22 info5 rfl (by decide) (by omega) v112 y111 l0 _ _ _ (fun _ => True) (fun _ => False) rfl rfl ?aO ?aR (fun _ _ h => h) (fun _ h => h.elim) ?aF ?aB ?aS ?aL ?_; (case aR => repeat (first | exact (Kd.C_below HR0.out HB.out) | (with_reducible refine Kd.C_alloc ?_ _) | (with_reducible refine Kd.C_drewN ?_ _) | (with_reducible refine Kd.C_drew ?_))); (case aB => exact (by repeat (first | (with_reducible first | exact HB.out | apply below_alloc | apply pw_below_drewN | apply below_drew1) | exact HB.out))); (case aF => exact (fun _ _ => trivial)); (case aO => exact (by (with_reducible repeat (first | apply Kd.R_alloc | apply Kd.R_drewN | apply Kd.R_drew)); exact HO113.out)); (case aS => exact (below_size (by repeat (first | (with_reducible first | exact HB.out | apply below_alloc | apply pw_below_drewN | apply below_drew1) | exact HB.out)))); (case aL => have := LMc2.out; omega); intro v115 w5 ho hb hg hat; rw [← Ny114.out] at ho; have n0_ := Aside0.mk (hb); have n1_ := Aside0.mk (ho); clear HB; clear HO113; have HB := n0_; have HO116 := n1_; clear n0_ n1_; clear ho hb hg hat))
  go_ret
  exact ⟨_, by first | rfl | (simp [errW_none, errW_some] <;> rfl) | (simp [*, errW_none, errW_some] <;> rfl), by (with_reducible repeat (first | apply Kd.R_alloc | apply Kd.R_drewN | apply Kd.R_drew)); exact HO116.out, by repeat (first | (with_reducible first | exact HB.out | apply below_alloc | apply pw_below_drewN | apply below_drew1) | exact HB.out)⟩
 ·rw [if_neg c2] at H
  exact absurd H (by simp)

end Go.Proofs.YtbikiibpjdiaaaaDoor.QM
