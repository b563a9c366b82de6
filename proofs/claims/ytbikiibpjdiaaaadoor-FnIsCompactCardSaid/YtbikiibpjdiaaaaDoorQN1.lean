-- squeezed
-- Written by a program of this session (wip/tools/myprint.py) out of Lean's own print of the translation.
import Derived.Test.YtbikiibpjdiaaaaDoorQ0
namespace Go.Proofs.YtbikiibpjdiaaaaDoor.QN
open Go.RowKit Go.Proofs.YtbikiibpjdiaaaaDoorW.PrintWords Go.Proofs.YtbikiibpjdiaaaaDoorW.PrintLast Go.Proofs.YtbikiibpjdiaaaaDoorW.PrintMore
open Go.Proofs.YtbikiibpjdiaaaaDoor.Tab Go.Proofs.YtbikiibpjdiaaaaDoor.Q0
set_option linter.unusedVariables false
set_option linter.unusedSimpArgs false

/-! ### gojsonnum_le64: function 88 -/
def gojsonnum_le64.f (l0 : List Int) : Option (Int) := if 7 < (l0.length : Int) then (if 0 < (l0.length : Int) then (if 1 < (l0.length : Int) then (if 2 < (l0.length : Int) then (if 3 < (l0.length : Int) then (if 4 < (l0.length : Int) then (if 5 < (l0.length : Int) then (if 6 < (l0.length : Int) then (some (Go.bits .or .u64 (Go.bits .or .u64 (Go.bits .or .u64 (Go.bits .or .u64 (Go.bits .or .u64 (Go.bits .or .u64 (Go.bits .or .u64 (IntKind.u64.wrap (rd l0 0)) (IntKind.u64.wrap ((IntKind.u64.wrap (rd l0 1)) * 256))) (IntKind.u64.wrap ((IntKind.u64.wrap (rd l0 2)) * 65536))) (IntKind.u64.wrap ((IntKind.u64.wrap (rd l0 3)) * 16777216))) (IntKind.u64.wrap ((IntKind.u64.wrap (rd l0 4)) * 4294967296))) (IntKind.u64.wrap ((IntKind.u64.wrap (rd l0 5)) * 1099511627776))) (IntKind.u64.wrap ((IntKind.u64.wrap (rd l0 6)) * 281474976710656))) (IntKind.u64.wrap ((IntKind.u64.wrap (rd l0 7)) * 72057594037927936)))) else (none)) else (none)) else (none)) else (none)) else (none)) else (none)) else (none)) else (none)
set_option maxHeartbeats 8000000 in
set_option maxRecDepth 100000 in
theorem gojsonnum_le64.calls (A0 : Option Addr) (c0 : Nat) (l0 : List Int) (r : Int) (w : World) (hr0 : Kd.C (Kd.int .u8) w A0 l0.length l0) (hc0 : l0.length ≤ c0) (h : gojsonnum_le64.f l0 = some r) :
  Calls Tryd.prog 88 #[.slice A0 l0.length c0] w fun e w' => e = .returned (.int .u64 r) ∧ Drawn0 w w' := by
 have HR0 := Aside0.mk hr0
 have HC0 := Aside0.mk hc0
 clear hr0 hc0
 have H : (if 7 < (l0.length : Int) then (if 0 < (l0.length : Int) then (if 1 < (l0.length : Int) then (if 2 < (l0.length : Int) then (if 3 < (l0.length : Int) then (if 4 < (l0.length : Int) then (if 5 < (l0.length : Int) then (if 6 < (l0.length : Int) then (some (Go.bits .or .u64 (Go.bits .or .u64 (Go.bits .or .u64 (Go.bits .or .u64 (Go.bits .or .u64 (Go.bits .or .u64 (Go.bits .or .u64 (IntKind.u64.wrap (rd l0 0)) (IntKind.u64.wrap ((IntKind.u64.wrap (rd l0 1)) * 256))) (IntKind.u64.wrap ((IntKind.u64.wrap (rd l0 2)) * 65536))) (IntKind.u64.wrap ((IntKind.u64.wrap (rd l0 3)) * 16777216))) (IntKind.u64.wrap ((IntKind.u64.wrap (rd l0 4)) * 4294967296))) (IntKind.u64.wrap ((IntKind.u64.wrap (rd l0 5)) * 1099511627776))) (IntKind.u64.wrap ((IntKind.u64.wrap (rd l0 6)) * 281474976710656))) (IntKind.u64.wrap ((IntKind.u64.wrap (rd l0 7)) * 72057594037927936)))) else (none)) else (none)) else (none)) else (none)) else (none)) else (none)) else (none)) else (none)) = some r := h
 clear h
 by_cases c2 : 7 < (l0.length : Int)
 ·rw [if_pos c2] at H
  have c2b0 : decide (7 < (l0.length : Int)) = true := decide_eq_true c2
  have c2b1 : decide (7 < l0.length) = true := decide_eq_true (by omega)
  clear c2
  by_cases c3 : 0 < (l0.length : Int)
  ·rw [if_pos c3] at H
   have c3b0 : decide (0 < (l0.length : Int)) = true := decide_eq_true c3
   have c3b1 : decide (0 < l0.length) = true := decide_eq_true (by omega)
   clear c3
   by_cases c4 : 1 < (l0.length : Int)
   ·rw [if_pos c4] at H
    have c4b0 : decide (1 < (l0.length : Int)) = true := decide_eq_true c4
    have c4b1 : decide (1 < l0.length) = true := decide_eq_true (by omega)
    clear c4
    by_cases c5 : 2 < (l0.length : Int)
    ·rw [if_pos c5] at H
     have c5b0 : decide (2 < (l0.length : Int)) = true := decide_eq_true c5
     have c5b1 : decide (2 < l0.length) = true := decide_eq_true (by omega)
     clear c5
     by_cases c6 : 3 < (l0.length : Int)
     ·rw [if_pos c6] at H
      have c6b0 : decide (3 < (l0.length : Int)) = true := decide_eq_true c6
      have c6b1 : decide (3 < l0.length) = true := decide_eq_true (by omega)
      clear c6
      by_cases c7 : 4 < (l0.length : Int)
      ·rw [if_pos c7] at H
       have c7b0 : decide (4 < (l0.length : Int)) = true := decide_eq_true c7
       have c7b1 : decide (4 < l0.length) = true := decide_eq_true (by omega)
       clear c7
       by_cases c8 : 5 < (l0.length : Int)
       ·rw [if_pos c8] at H
        have c8b0 : decide (5 < (l0.length : Int)) = true := decide_eq_true c8
        have c8b1 : decide (5 < l0.length) = true := decide_eq_true (by omega)
        clear c8
        by_cases c9 : 6 < (l0.length : Int)
        ·rw [if_pos c9] at H
         have c9b0 : decide (6 < (l0.length : Int)) = true := decide_eq_true c9
         have c9b1 : decide (6 < l0.length) = true := decide_eq_true (by omega)
         clear c9
         obtain rfl := Option.some.inj H
         have p101 : 0 ≤ (7 : Int) := (by omega)
         have q101 : 7 < (l0.length : Int) := of_decide_eq_true (by first | (with_reducible assumption) | assumption)
         obtain ⟨ad101, e101, hx101_0⟩ := Kd.at_int HR0.out 7 p101 q101
         cases e101
         (try simp only [show (7 : Int).toNat = 7 from rfl, Nat.reduceMul, Nat.reduceEqDiff, Go.Addr.add, ↓reduceIte] at hx101_0)
         have qi101 : (7 < l0.length) = True := eq_true (by omega)
         (try rw [show ((7 : Int)).toNat = 7 from rfl] at hx101_0)
         replace p101 := eq_true p101
         replace q101 := eq_true q101
         have p102 : 0 ≤ (0 : Int) := (by omega)
         have q102 : 0 < (l0.length : Int) := of_decide_eq_true (by first | (with_reducible assumption) | assumption)
         obtain ⟨ad102, e102, hx102_0⟩ := Kd.at_int HR0.out 0 p102 q102
         obtain rfl : ad101 = ad102 := (by injection e102)
         have qi102 : (0 < l0.length) = True := eq_true (by omega)
         (try rw [show ((0 : Int)).toNat = 0 from rfl] at hx102_0)
         (try rw [Addr.add_zero'] at hx102_0)
         replace p102 := eq_true p102
         replace q102 := eq_true q102
         have p103 : 0 ≤ (1 : Int) := (by omega)
         have q103 : 1 < (l0.length : Int) := of_decide_eq_true (by first | (with_reducible assumption) | assumption)
         obtain ⟨ad103, e103, hx103_0⟩ := Kd.at_int HR0.out 1 p103 q103
         obtain rfl : ad101 = ad103 := (by injection e103)
         (try simp only [show (1 : Int).toNat = 1 from rfl, Nat.reduceMul, Nat.reduceEqDiff, Go.Addr.add, ↓reduceIte] at hx103_0)
         have qi103 : (1 < l0.length) = True := eq_true (by omega)
         (try rw [show ((1 : Int)).toNat = 1 from rfl] at hx103_0)
         replace p103 := eq_true p103
         replace q103 := eq_true q103
         have p104 : 0 ≤ (2 : Int) := (by omega)
         have q104 : 2 < (l0.length : Int) := of_decide_eq_true (by first | (with_reducible assumption) | assumption)
         obtain ⟨ad104, e104, hx104_0⟩ := Kd.at_int HR0.out 2 p104 q104
         obtain rfl : ad101 = ad104 := (by injection e104)
         (try simp only [show (2 : Int).toNat = 2 from rfl, Nat.reduceMul, Nat.reduceEqDiff, Go.Addr.add, ↓reduceIte] at hx104_0)
         have qi104 : (2 < l0.length) = True := eq_true (by omega)
         (try rw [show ((2 : Int)).toNat = 2 from rfl] at hx104_0)
         replace p104 := eq_true p104
         replace q104 := eq_true q104
         have p105 : 0 ≤ (3 : Int) := (by omega)
         have q105 : 3 < (l0.length : Int) := of_decide_eq_true (by first | (with_reducible assumption) | assumption)
         obtain ⟨ad105, e105, hx105_0⟩ := Kd.at_int HR0.out 3 p105 q105
         obtain rfl : ad101 = ad105 := (by injection e105)
         (try simp only [show (3 : Int).toNat = 3 from rfl, Nat.reduceMul, Nat.reduceEqDiff, Go.Addr.add, ↓reduceIte] at hx105_0)
         have qi105 : (3 < l0.length) = True := eq_true (by omega)
         (try rw [show ((3 : Int)).toNat = 3 from rfl] at hx105_0)
         replace p105 := eq_true p105
         replace q105 := eq_true q105
         have p106 : 0 ≤ (4 : Int) := (by omega)
         have q106 : 4 < (l0.length : Int) := of_decide_eq_true (by first | (with_reducible assumption) | assumption)
         obtain ⟨ad106, e106, hx106_0⟩ := Kd.at_int HR0.out 4 p106 q106
         obtain rfl : ad101 = ad106 := (by injection e106)
         (try simp only [show (4 : Int).toNat = 4 from rfl, Nat.reduceMul, Nat.reduceEqDiff, Go.Addr.add, ↓reduceIte] at hx106_0)
         have qi106 : (4 < l0.length) = True := eq_true (by omega)
         (try rw [show ((4 : Int)).toNat = 4 from rfl] at hx106_0)
         replace p106 := eq_true p106
         replace q106 := eq_true q106
         have p107 : 0 ≤ (5 : Int) := (by omega)
         have q107 : 5 < (l0.length : Int) := of_decide_eq_true (by first | (with_reducible assumption) | assumption)
         obtain ⟨ad107, e107, hx107_0⟩ := Kd.at_int HR0.out 5 p107 q107
         obtain rfl : ad101 = ad107 := (by injection e107)
         (try simp only [show (5 : Int).toNat = 5 from rfl, Nat.reduceMul, Nat.reduceEqDiff, Go.Addr.add, ↓reduceIte] at hx107_0)
         have qi107 : (5 < l0.length) = True := eq_true (by omega)
         (try rw [show ((5 : Int)).toNat = 5 from rfl] at hx107_0)
         replace p107 := eq_true p107
         replace q107 := eq_true q107
         have p108 : 0 ≤ (6 : Int) := (by omega)
         have q108 : 6 < (l0.length : Int) := of_decide_eq_true (by first | (with_reducible assumption) | assumption)
         obtain ⟨ad108, e108, hx108_0⟩ := Kd.at_int HR0.out 6 p108 q108
         obtain rfl : ad101 = ad108 := (by injection e108)
         (try simp only [show (6 : Int).toNat = 6 from rfl, Nat.reduceMul, Nat.reduceEqDiff, Go.Addr.add, ↓reduceIte] at hx108_0)
         have qi108 : (6 < l0.length) = True := eq_true (by omega)
         (try rw [show ((6 : Int)).toNat = 6 from rfl] at hx108_0)
         replace p108 := eq_true p108
         replace q108 := eq_true q108
         have p109 : 0 ≤ (7 : Int) := (by omega)
         have q109 : 7 < (l0.length : Int) := of_decide_eq_true (by first | (with_reducible assumption) | assumption)
         obtain ⟨ad109, e109, hx109_0⟩ := Kd.at_int HR0.out 7 p109 q109
         obtain rfl : ad101 = ad109 := (by injection e109)
         (try simp only [show (7 : Int).toNat = 7 from rfl, Nat.reduceMul, Nat.reduceEqDiff, Go.Addr.add, ↓reduceIte] at hx109_0)
         have qi109 : (7 < l0.length) = True := eq_true (by omega)
         (try rw [show ((7 : Int)).toNat = 7 from rfl] at hx109_0)
         replace p109 := eq_true p109
         replace q109 := eq_true q109
         go_enter Tryd.func88, Tryd.ntmps88
         go_wp2
         repeat (go_quiet (fail); try go_wp2)
         go_ret
         exact ⟨by first | rfl | (simp; done) | (simp [*]; done) | (simp [wrap64]; done), by repeat (first | exact Drawn0.refl _ | apply Drawn0.step)⟩
        ·rw [if_neg c9] at H
         exact absurd H (by simp)
       ·rw [if_neg c8] at H
        exact absurd H (by simp)
      ·rw [if_neg c7] at H
       exact absurd H (by simp)
     ·rw [if_neg c6] at H
      exact absurd H (by simp)
    ·rw [if_neg c5] at H
     exact absurd H (by simp)
   ·rw [if_neg c4] at H
    exact absurd H (by simp)
  ·rw [if_neg c3] at H
   exact absurd H (by simp)
 ·rw [if_neg c2] at H
  exact absurd H (by simp)

/-! ### gojsonnum_ScanDigits: function 85 -/
mutual
def gojsonnum_ScanDigits.l0 : Nat → List Int → Int → Option (Int)
 | 0, _, _ => none
 | k + 1, x0, x1 => if (wrap64 (x1 + 8)) ≤ (x0.length : Int) then (if 0 ≤ x1 then (if x1 ≤ (x0.length : Int) then ((gojsonnum_le64.f (x0.drop (x1 : Int).toNat)).bind fun t111 => (if (Go.bits .and .u64 (Go.bits .or .u64 (IntKind.u64.wrap ((Go.bits .andNot .u64 (Go.bits .xor .u64 t111 3472328296227680304) 9259542123273814144) + 8536140394893047414)) (Go.bits .xor .u64 t111 3472328296227680304)) 9259542123273814144) = 0 then (gojsonnum_ScanDigits.l0 k x0 (wrap64 (x1 + 8))) else ((tz64.f (Go.bits .and .u64 (Go.bits .or .u64 (IntKind.u64.wrap ((Go.bits .andNot .u64 (Go.bits .xor .u64 t111 3472328296227680304) 9259542123273814144) + 8536140394893047414)) (Go.bits .xor .u64 t111 3472328296227680304)) 9259542123273814144)).bind fun t112 => (some (wrap64 (x1 + (wrap64 (Int.tdiv t112 8)))))))) else (none)) else (none)) else (gojsonnum_ScanDigits.l1 k x0 x1)
def gojsonnum_ScanDigits.l1 : Nat → List Int → Int → Option (Int)
 | 0, _, _ => none
 | k + 1, x0, x1 => if x1 < (x0.length : Int) then (if 0 ≤ x1 then (if 48 ≤ (rd x0 x1) then (if (rd x0 x1) ≤ 57 then (gojsonnum_ScanDigits.l1 k x0 (wrap64 (x1 + 1))) else (some x1)) else (some x1)) else (none)) else (some x1)
end
def gojsonnum_ScanDigits.f (k : Nat) (l0 : List Int) (a1 : Int) : Option (Int) := gojsonnum_ScanDigits.l0 k l0 a1
theorem gojsonnum_ScanDigits.mono_l : ∀ k, (∀ y0 y1, LeO (gojsonnum_ScanDigits.l0 k y0 y1) (gojsonnum_ScanDigits.l0 (k + 1) y0 y1)) ∧ (∀ y0 y1, LeO (gojsonnum_ScanDigits.l1 k y0 y1) (gojsonnum_ScanDigits.l1 (k + 1) y0 y1))
 | 0 => ⟨fun _ _ r h => by simp [gojsonnum_ScanDigits.l0] at h, fun _ _ r h => by simp [gojsonnum_ScanDigits.l1] at h⟩
 | k + 1 => by
  obtain ⟨ih0, ih1⟩ := gojsonnum_ScanDigits.mono_l k
  refine ⟨?_, ?_⟩
  ·intro y0 y1
   unfold gojsonnum_ScanDigits.l0
   repeat' first
   | (with_reducible exact ih0 _ _)
   | (with_reducible exact ih1 _ _)
   | (with_reducible exact LeO.refl _)
   | (with_reducible exact LeO.none _)
   | (with_reducible refine LeO.ite ?_ ?_)
   | (with_reducible refine LeO.bind ?_ (fun _ => ?_))
   | exact ih0 _ _
   | exact ih1 _ _
   | exact LeO.none _
   | refine LeO.ite ?_ ?_
   | refine LeO.bind ?_ (fun _ => ?_)
  ·intro y0 y1
   unfold gojsonnum_ScanDigits.l1
   repeat' first
   | (with_reducible exact ih0 _ _)
   | (with_reducible exact ih1 _ _)
   | (with_reducible exact LeO.refl _)
   | (with_reducible exact LeO.none _)
   | (with_reducible refine LeO.ite ?_ ?_)
   | (with_reducible refine LeO.bind ?_ (fun _ => ?_))
   | exact ih0 _ _
   | exact ih1 _ _
   | exact LeO.none _
   | refine LeO.ite ?_ ?_
   | refine LeO.bind ?_ (fun _ => ?_)
theorem gojsonnum_ScanDigits.mono : ∀ a0 a1 k, LeO (gojsonnum_ScanDigits.f k a0 a1) (gojsonnum_ScanDigits.f (k + 1) a0 a1) := by
 intro a0 a1 k
 obtain ⟨ih0, ih1⟩ := gojsonnum_ScanDigits.mono_l k
 unfold gojsonnum_ScanDigits.f
 repeat' first
   | (with_reducible exact ih0 _ _)
   | (with_reducible exact ih1 _ _)
   | (with_reducible exact LeO.refl _)
   | (with_reducible exact LeO.none _)
   | (with_reducible refine LeO.ite ?_ ?_)
   | (with_reducible refine LeO.bind ?_ (fun _ => ?_))
   | exact ih0 _ _
   | exact ih1 _ _
   | exact LeO.none _
   | refine LeO.ite ?_ ?_
   | refine LeO.bind ?_ (fun _ => ?_)
set_option maxHeartbeats 8000000 in
set_option maxRecDepth 100000 in
theorem gojsonnum_ScanDigits.calls (k : Nat) (A0 : Option Addr) (c0 : Nat) (l0 : List Int) (a1 : Int) (r : Int) (w : World) (hr0 : Kd.C (Kd.int .u8) w A0 l0.length l0) (hc0 : l0.length ≤ c0) (hG : Glob w) (h : gojsonnum_ScanDigits.f k l0 a1 = some r) :
  Calls Tryd.prog 85 #[.slice A0 l0.length c0, .int .i64 a1] w fun e w' => e = .returned (.int .i64 r) ∧ Drawn0 w w' := by
 have HG := Aside0.mk hG
 clear hG
 have HR0 := Aside0.mk hr0
 have HC0 := Aside0.mk hc0
 clear hr0 hc0
 have H : (gojsonnum_ScanDigits.l0 k l0 a1) = some r := h
 clear h
 have H' := Aside0.mk H
 clear H
 go_enter Tryd.func85, Tryd.ntmps85
 go_wp2
 go_loopg [1] k (fun kq v1 w' => ∃ (x1_1 : Int), v1 = .int .i64 x1_1 ∧ Aside0 (gojsonnum_ScanDigits.l0 kq l0 x1_1 = some r) ∧ Aside0 (kq ≤ k) ∧ Drawn0 w w')
 case atStart => exact ⟨(a1), (by first | rfl | (simp; done) | (simp [*]; done) | (simp [wrap64]; done)), H', ⟨Nat.le_refl _⟩, by repeat (first | exact Drawn0.refl _ | apply Drawn0.step)⟩
 case round =>
  clear H'
  try clear p2
  obtain ⟨x1_1, rfl, HA, HK1, ⟨m1, rfl⟩⟩ := hrel
  cases gk with
  | zero => exact absurd HA.out (by simp [gojsonnum_ScanDigits.l0])
  | succ k1 =>
   have H := HA.out
   clear HA
   simp only [gojsonnum_ScanDigits.l0] at H
   by_cases c3 : (wrap64 (x1_1 + 8)) ≤ (l0.length : Int)
   ·rw [if_pos c3] at H
    have c3b0 : decide ((wrap64 (x1_1 + 8)) ≤ (l0.length : Int)) = true := decide_eq_true c3
    clear c3
    by_cases c4 : 0 ≤ x1_1
    ·rw [if_pos c4] at H
     have c4b0 := eq_true c4
     have c4b1 : decide (0 ≤ x1_1) = true := decide_eq_true c4
     clear c4
     by_cases c5 : x1_1 ≤ (l0.length : Int)
     ·rw [if_pos c5] at H
      have c5b0 := eq_true c5
      have c5b1 : decide (x1_1 ≤ (l0.length : Int)) = true := decide_eq_true c5
      clear c5
      replace H := Option.bind_eq_some_iff.mp H
      obtain ⟨t111, A60, H⟩ := H
      replace H : (if (Go.bits .and .u64 (Go.bits .or .u64 (IntKind.u64.wrap ((Go.bits .andNot .u64 (Go.bits .xor .u64 t111 3472328296227680304) 9259542123273814144) + 8536140394893047414)) (Go.bits .xor .u64 t111 3472328296227680304)) 9259542123273814144) = 0 then (gojsonnum_ScanDigits.l0 k1 l0 (wrap64 (x1_1 + 8))) else ((tz64.f (Go.bits .and .u64 (Go.bits .or .u64 (IntKind.u64.wrap ((Go.bits .andNot .u64 (Go.bits .xor .u64 t111 3472328296227680304) 9259542123273814144) + 8536140394893047414)) (Go.bits .xor .u64 t111 3472328296227680304)) 9259542123273814144)).bind fun t112 => (some (wrap64 (x1_1 + (wrap64 (Int.tdiv t112 8))))))) = some r := H
      have A6 := Aside0.mk A60
      clear A60
      by_cases c7 : (Go.bits .and .u64 (Go.bits .or .u64 (IntKind.u64.wrap ((Go.bits .andNot .u64 (Go.bits .xor .u64 t111 3472328296227680304) 9259542123273814144) + 8536140394893047414)) (Go.bits .xor .u64 t111 3472328296227680304)) 9259542123273814144) = 0
      ·rw [if_pos c7] at H
       have c7b0 : ((Go.bits .and .u64 (Go.bits .or .u64 (IntKind.u64.wrap ((Go.bits .andNot .u64 (Go.bits .xor .u64 t111 3472328296227680304) 9259542123273814144) + 8536140394893047414)) (Go.bits .xor .u64 t111 3472328296227680304)) 9259542123273814144) == 0) = true := beq_iff_eq.mpr c7
       have c7b1 : ((Go.bits .and .u64 (Go.bits .or .u64 (IntKind.u64.wrap ((Go.bits .andNot .u64 (Go.bits .xor .u64 t111 3472328296227680304) 9259542123273814144) + 8536140394893047414)) (Go.bits .xor .u64 t111 3472328296227680304)) 9259542123273814144) != 0) = false := bne_eq_false_iff_eq.mpr c7
       clear c7
       have H' := Aside0.mk H
       clear H
       obtain ⟨i08, hi08, _, hsz8, _⟩ := info_parts info5
       obtain ⟨A8, hcut8, hA8, hC8⟩ := print_drop_of (P := Tryd.prog) (Value.int .u8) 0 22 5 .i64 Tryd.underlying22 hi08 hsz8 A0 c0 l0 x1_1 (of_decide_eq_true (by first | (with_reducible assumption) | assumption)) (of_decide_eq_true (by first | (with_reducible assumption) | assumption)) HC0.out
       have HR110 := Aside0.mk (Kd.C_of_reads (h1 := fun _ => rfl) (hA8 _ (Kd.reads_of_C HR0.out)))
       have HC110 := Aside0.mk hC8
       clear hA8 hC8 hi08 hsz8
       go_wp2_with (first | ((with_reducible refine gate_callee (f := 88) rfl ?_); refine goesL_ (some 15) rfl rfl Tryd.func88 (by kernel_rfl) rfl #[.slice A8 (l0.drop (x1_1 : Int).toNat).length (c0 - x1_1.toNat)] rfl (by (try simp only [List.map_toArray, List.map_cons, List.map_nil]); first | done | (rw [show (l0.drop (x1_1 : Int).toNat).length = (l0.length - x1_1.toNat) from List.length_drop] <;> rfl) | rfl | (simp only [List.length_drop, List.length_take]; rfl)) ?_; (with_reducible refine (gojsonnum_le64.calls _ _ (l0.drop (x1_1 : Int).toNat) t111 _ ?side1 ?side2 A6.out).mono ?_); (case side1 => repeat (first | exact HR110.out | (with_reducible refine Kd.C_alloc ?_ _) | (with_reducible refine Kd.C_drewN ?_ _) | (with_reducible refine Kd.C_drew ?_))); (case side2 => exact HC110.out); rintro e w' ⟨rfl, ⟨nd, rfl⟩⟩; refine ⟨_, rfl, ?_⟩))
       go_roundg k1
       case measure => have := HK1.out; omega
       case rel => exact ⟨(wrap64 (x1_1 + 8)), (by first | rfl | (simp; done) | (simp [*]; done) | (simp [wrap64]; done)), H', ⟨by have := HK1.out; omega⟩, by repeat (first | exact Drawn0.refl _ | apply Drawn0.step)⟩
      ·rw [if_neg c7] at H
       have c7b0 : ((Go.bits .and .u64 (Go.bits .or .u64 (IntKind.u64.wrap ((Go.bits .andNot .u64 (Go.bits .xor .u64 t111 3472328296227680304) 9259542123273814144) + 8536140394893047414)) (Go.bits .xor .u64 t111 3472328296227680304)) 9259542123273814144) == 0) = false := beq_eq_false_iff_ne.mpr c7
       have c7b1 : ((Go.bits .and .u64 (Go.bits .or .u64 (IntKind.u64.wrap ((Go.bits .andNot .u64 (Go.bits .xor .u64 t111 3472328296227680304) 9259542123273814144) + 8536140394893047414)) (Go.bits .xor .u64 t111 3472328296227680304)) 9259542123273814144) != 0) = true := bne_iff_ne.mpr c7
       replace H := Option.bind_eq_some_iff.mp H
       obtain ⟨t112, A90, H⟩ := H
       replace H : (some (wrap64 (x1_1 + (wrap64 (Int.tdiv t112 8))))) = some r := H
       have A9 := Aside0.mk A90
       clear A90
       obtain rfl := Option.some.inj H
       obtain ⟨i010, hi010, _, hsz10, _⟩ := info_parts info5
       obtain ⟨A10, hcut10, hA10, hC10⟩ := print_drop_of (P := Tryd.prog) (Value.int .u8) 0 22 5 .i64 Tryd.underlying22 hi010 hsz10 A0 c0 l0 x1_1 (of_decide_eq_true (by first | (with_reducible assumption) | assumption)) (of_decide_eq_true (by first | (with_reducible assumption) | assumption)) HC0.out
       have HR110 := Aside0.mk (Kd.C_of_reads (h1 := fun _ => rfl) (hA10 _ (Kd.reads_of_C HR0.out)))
       have HC110 := Aside0.mk hC10
       clear hA10 hC10 hi010 hsz10
       go_wp2_with (first | ((with_reducible refine gate_callee (f := 88) rfl ?_); refine goesL_ (some 15) rfl rfl Tryd.func88 (by kernel_rfl) rfl #[.slice A10 (l0.drop (x1_1 : Int).toNat).length (c0 - x1_1.toNat)] rfl (by (try simp only [List.map_toArray, List.map_cons, List.map_nil]); first | done | (rw [show (l0.drop (x1_1 : Int).toNat).length = (l0.length - x1_1.toNat) from List.length_drop] <;> rfl) | rfl | (simp only [List.length_drop, List.length_take]; rfl)) ?_; (with_reducible refine (gojsonnum_le64.calls _ _ (l0.drop (x1_1 : Int).toNat) t111 _ ?side1 ?side2 A6.out).mono ?_); (case side1 => repeat (first | exact HR110.out | (with_reducible refine Kd.C_alloc ?_ _) | (with_reducible refine Kd.C_drewN ?_ _) | (with_reducible refine Kd.C_drew ?_))); (case side2 => exact HC110.out); rintro e w' ⟨rfl, ⟨nd, rfl⟩⟩; refine ⟨_, rfl, ?_⟩) | ((with_reducible refine gate_callee (f := 70) rfl ?_); refine goesL_ (some 27) rfl rfl Tryd.func70 (by kernel_rfl) rfl #[.int .u64 (Go.bits .and .u64 (Go.bits .or .u64 (IntKind.u64.wrap ((Go.bits .andNot .u64 (Go.bits .xor .u64 t111 3472328296227680304) 9259542123273814144) + 8536140394893047414)) (Go.bits .xor .u64 t111 3472328296227680304)) 9259542123273814144)] rfl (by (try simp only [List.map_toArray, List.map_cons, List.map_nil]); first | done | rfl | (simp only [List.length_drop, List.length_take]; rfl)) ?_; (with_reducible refine (tz64.calls (Go.bits .and .u64 (Go.bits .or .u64 (IntKind.u64.wrap ((Go.bits .andNot .u64 (Go.bits .xor .u64 t111 3472328296227680304) 9259542123273814144) + 8536140394893047414)) (Go.bits .xor .u64 t111 3472328296227680304)) 9259542123273814144) t112 _ ?side1 A9.out).mono ?_); (case side1 => first | exact HG.out | exact Glob.drawn HG.out (by repeat (first | exact Drawn0.refl _ | apply Drawn0.step))); rintro e w' ⟨rfl, ⟨nd, rfl⟩⟩; refine ⟨_, rfl, ?_⟩))
       go_ret
       exact ⟨by first | rfl | (simp; done) | (simp [*]; done) | (simp [wrap64]; done), by repeat (first | exact Drawn0.refl _ | apply Drawn0.step)⟩
     ·rw [if_neg c5] at H
      exact absurd H (by simp)
    ·rw [if_neg c4] at H
     exact absurd H (by simp)
   ·rw [if_neg c3] at H
    have c3b0 : decide ((wrap64 (x1_1 + 8)) ≤ (l0.length : Int)) = false := decide_eq_false c3
    clear c3
    have H' := Aside0.mk H
    clear H
    go_wp2
    go_loopg [1] k1 (fun kq v1 w' => ∃ (x1_2 : Int), v1 = .int .i64 x1_2 ∧ Aside0 (gojsonnum_ScanDigits.l1 kq l0 x1_2 = some r) ∧ Aside0 (kq ≤ k1) ∧ Drawn0 w w')
    case atStart => exact ⟨(x1_1), (by first | rfl | (simp; done) | (simp [*]; done) | (simp [wrap64]; done)), H', ⟨Nat.le_refl _⟩, by repeat (first | exact Drawn0.refl _ | apply Drawn0.step)⟩
    case round =>
     clear H'
     try clear p2
     try clear c3
     try clear c3b0
     try clear c4
     try clear c4b0
     try clear c4b1
     try clear c5
     try clear c5b0
     try clear c5b1
     try clear p6
     try clear c7
     try clear c7b0
     try clear c7b1
     try clear c8
     try clear p2
     obtain ⟨x1_2, rfl, HA, HK2, ⟨m2, rfl⟩⟩ := hrel
     cases gk with
     | zero => exact absurd HA.out (by simp [gojsonnum_ScanDigits.l1])
     | succ k2 =>
      have H := HA.out
      clear HA
      simp only [gojsonnum_ScanDigits.l1] at H
      by_cases c11 : x1_2 < (l0.length : Int)
      ·rw [if_pos c11] at H
       have c11b0 : decide (x1_2 < (l0.length : Int)) = true := decide_eq_true c11
       clear c11
       by_cases c12 : 0 ≤ x1_2
       ·rw [if_pos c12] at H
        have c12b0 : decide (0 ≤ x1_2) = true := decide_eq_true c12
        clear c12
        by_cases c13 : 48 ≤ (rd l0 x1_2)
        ·rw [if_pos c13] at H
         have c13b0 : decide (48 ≤ (rd l0 x1_2)) = true := decide_eq_true c13
         clear c13
         by_cases c14 : (rd l0 x1_2) ≤ 57
         ·rw [if_pos c14] at H
          have c14b0 : decide ((rd l0 x1_2) ≤ 57) = true := decide_eq_true c14
          clear c14
          have H' := Aside0.mk H
          clear H
          have p113 : 0 ≤ (x1_2 : Int) := of_decide_eq_true (by first | (with_reducible assumption) | assumption)
          have q113 : x1_2 < (l0.length : Int) := of_decide_eq_true (by first | (with_reducible assumption) | assumption)
          obtain ⟨ad113, e113, hx113_0⟩ := Kd.at_int HR0.out x1_2 p113 q113
          cases e113
          replace p113 := eq_true p113
          replace q113 := eq_true q113
          have p114 : 0 ≤ (x1_2 : Int) := of_decide_eq_true (by first | (with_reducible assumption) | assumption)
          have q114 : x1_2 < (l0.length : Int) := of_decide_eq_true (by first | (with_reducible assumption) | assumption)
          obtain ⟨ad114, e114, hx114_0⟩ := Kd.at_int HR0.out x1_2 p114 q114
          obtain rfl : ad113 = ad114 := (by injection e114)
          replace p114 := eq_true p114
          replace q114 := eq_true q114
          go_wp2
          go_roundg k2
          case measure => have := HK1.out; have := HK2.out; omega
          case rel => exact ⟨(wrap64 (x1_2 + 1)), (by first | rfl | (simp; done) | (simp [*]; done) | (simp [wrap64]; done)), H', ⟨by have := HK1.out; have := HK2.out; omega⟩, by repeat (first | exact Drawn0.refl _ | apply Drawn0.step)⟩
         ·rw [if_neg c14] at H
          have c14b0 : decide ((rd l0 x1_2) ≤ 57) = false := decide_eq_false c14
          clear c14
          obtain rfl := Option.some.inj H
          have p113 : 0 ≤ (x1_2 : Int) := of_decide_eq_true (by first | (with_reducible assumption) | assumption)
          have q113 : x1_2 < (l0.length : Int) := of_decide_eq_true (by first | (with_reducible assumption) | assumption)
          obtain ⟨ad113, e113, hx113_0⟩ := Kd.at_int HR0.out x1_2 p113 q113
          cases e113
          replace p113 := eq_true p113
          replace q113 := eq_true q113
          have p114 : 0 ≤ (x1_2 : Int) := of_decide_eq_true (by first | (with_reducible assumption) | assumption)
          have q114 : x1_2 < (l0.length : Int) := of_decide_eq_true (by first | (with_reducible assumption) | assumption)
          obtain ⟨ad114, e114, hx114_0⟩ := Kd.at_int HR0.out x1_2 p114 q114
          obtain rfl : ad113 = ad114 := (by injection e114)
          replace p114 := eq_true p114
          replace q114 := eq_true q114
          go_wp2
          go_ret
          exact ⟨by first | rfl | (simp; done) | (simp [*]; done) | (simp [wrap64]; done), by repeat (first | exact Drawn0.refl _ | apply Drawn0.step)⟩
        ·rw [if_neg c13] at H
         have c13b0 : decide (48 ≤ (rd l0 x1_2)) = false := decide_eq_false c13
         clear c13
         obtain rfl := Option.some.inj H
         have p113 : 0 ≤ (x1_2 : Int) := of_decide_eq_true (by first | (with_reducible assumption) | assumption)
         have q113 : x1_2 < (l0.length : Int) := of_decide_eq_true (by first | (with_reducible assumption) | assumption)
         obtain ⟨ad113, e113, hx113_0⟩ := Kd.at_int HR0.out x1_2 p113 q113
         cases e113
         replace p113 := eq_true p113
         replace q113 := eq_true q113
         go_wp2
         go_ret
         exact ⟨by first | rfl | (simp; done) | (simp [*]; done) | (simp [wrap64]; done), by repeat (first | exact Drawn0.refl _ | apply Drawn0.step)⟩
       ·rw [if_neg c12] at H
        exact absurd H (by simp)
      ·rw [if_neg c11] at H
       have c11b0 : decide (x1_2 < (l0.length : Int)) = false := decide_eq_false c11
       clear c11
       obtain rfl := Option.some.inj H
       go_wp2
       go_ret
       exact ⟨by first | rfl | (simp; done) | (simp [*]; done) | (simp [wrap64]; done), by repeat (first | exact Drawn0.refl _ | apply Drawn0.step)⟩

end Go.Proofs.YtbikiibpjdiaaaaDoor.QN
