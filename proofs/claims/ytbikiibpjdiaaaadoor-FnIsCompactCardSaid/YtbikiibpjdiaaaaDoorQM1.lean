-- squeezed
-- Written by a program of this session (wip/tools/myprint.py) out of Lean's own print of the translation.
import Derived.Test.YtbikiibpjdiaaaaDoorQ0
namespace Go.Proofs.YtbikiibpjdiaaaaDoor.QM
open Go.RowKit Go.Proofs.YtbikiibpjdiaaaaDoorW.PrintWords Go.Proofs.YtbikiibpjdiaaaaDoorW.PrintLast Go.Proofs.YtbikiibpjdiaaaaDoorW.PrintMore
open Go.Proofs.YtbikiibpjdiaaaaDoor.Tab Go.Proofs.YtbikiibpjdiaaaaDoor.Q0
set_option linter.unusedVariables false
set_option linter.unusedSimpArgs false

/-! ### spec_Same: function 16 -/
def spec_Same.f (l0 : List Int) (l1 : List Int) : Option (Bool) := some ((strOfNums l0).toList == (strOfNums l1).toList)
set_option maxHeartbeats 8000000 in
set_option maxRecDepth 100000 in
theorem spec_Same.calls (A0 : Option Addr) (c0 : Nat) (l0 : List Int) (A1 : Option Addr) (c1 : Nat) (l1 : List Int) (r : Bool) (w : World) (hr0 : Kd.C (Kd.int .u8) w A0 l0.length l0) (hc0 : l0.length ≤ c0) (hr1 : Kd.C (Kd.int .u8) w A1 l1.length l1) (hc1 : l1.length ≤ c1) (h : spec_Same.f l0 l1 = some r) :
  Calls Tryd.prog 16 #[.slice A0 l0.length c0, .slice A1 l1.length c1] w fun e w' => e = .returned (.bool r) ∧ Drawn0 w w' := by
 have HR0 := Aside0.mk hr0
 have HC0 := Aside0.mk hc0
 clear hr0 hc0
 have HR1 := Aside0.mk hr1
 have HC1 := Aside0.mk hc1
 clear hr1 hc1
 have H : (some ((strOfNums l0).toList == (strOfNums l1).toList)) = some r := h
 clear h
 obtain rfl := Option.some.inj H
 have hcv3 := Kd.C_string (P := Tryd.prog) (A := A0) (c := c0) Tryd.underlying22 Tryd.underlying5 Tryd.underlying9 HR0.out
 have hcv4 := Kd.C_string (P := Tryd.prog) (A := A1) (c := c1) Tryd.underlying22 Tryd.underlying5 Tryd.underlying9 HR1.out
 go_enter Tryd.func16, Tryd.ntmps16
 go_wp2
 go_ret
 exact ⟨by first | rfl | (simp; done) | (simp [*]; done) | (simp [wrap64]; done), by repeat (first | exact Drawn0.refl _ | apply Drawn0.step)⟩

/-! ### spec_escapes: function 41 -/
def spec_escapes.f (l0 : List Int) : Option (ByteArray × Int) := if 0 < (l0.length : Int) then (if (rd l0 0) = 60 then (some ((⟨#[92, 117, 48, 48, 51, 99]⟩ : ByteArray), 1)) else (if (rd l0 0) = 62 then (some ((⟨#[92, 117, 48, 48, 51, 101]⟩ : ByteArray), 1)) else (if (rd l0 0) = 38 then (some ((⟨#[92, 117, 48, 48, 50, 54]⟩ : ByteArray), 1)) else (if (l0.length : Int) ≥ 3 then (if (rd l0 0) = 226 then (if 1 < (l0.length : Int) then (if (rd l0 1) = 128 then (if 2 < (l0.length : Int) then (if (Go.bits .andNot .u8 (rd l0 2) 1) = 168 then ((some (([(56 + (Go.bits .and .u8 (rd l0 2) 1)) % 256] : List Int) : List Int)).bind fun y106 => (if 5 + (strOfNums y106).size ≤ 9223372036854775807 then (some ((⟨#[92, 117, 50, 48, 50]⟩ : ByteArray) ++ (strOfNums y106), 3)) else (none))) else (some ((⟨#[]⟩ : ByteArray), 0))) else (none)) else (some ((⟨#[]⟩ : ByteArray), 0))) else (none)) else (some ((⟨#[]⟩ : ByteArray), 0))) else (some ((⟨#[]⟩ : ByteArray), 0)))))) else (none)
set_option maxHeartbeats 8000000 in
set_option maxRecDepth 100000 in
theorem spec_escapes.calls (A0 : Option Addr) (c0 : Nat) (l0 : List Int) (r1 : ByteArray) (r2 : Int) (w : World) (hr0 : Kd.C (Kd.int .u8) w A0 l0.length l0) (hc0 : l0.length ≤ c0) (h : spec_escapes.f l0 = some (r1, r2)) :
  Calls Tryd.prog 41 #[.slice A0 l0.length c0] w fun e w' => e = .returned (.tuple #[.string r1, .int .i64 r2]) ∧ Below w.heap.size w w' := by
 have HR0 := Aside0.mk hr0
 have HC0 := Aside0.mk hc0
 clear hr0 hc0
 have HB := Aside0.mk (Below.refl w.heap.size w)
 have H : (if 0 < (l0.length : Int) then (if (rd l0 0) = 60 then (some ((⟨#[92, 117, 48, 48, 51, 99]⟩ : ByteArray), 1)) else (if (rd l0 0) = 62 then (some ((⟨#[92, 117, 48, 48, 51, 101]⟩ : ByteArray), 1)) else (if (rd l0 0) = 38 then (some ((⟨#[92, 117, 48, 48, 50, 54]⟩ : ByteArray), 1)) else (if (l0.length : Int) ≥ 3 then (if (rd l0 0) = 226 then (if 1 < (l0.length : Int) then (if (rd l0 1) = 128 then (if 2 < (l0.length : Int) then (if (Go.bits .andNot .u8 (rd l0 2) 1) = 168 then ((some (([(56 + (Go.bits .and .u8 (rd l0 2) 1)) % 256] : List Int) : List Int)).bind fun y106 => (if 5 + (strOfNums y106).size ≤ 9223372036854775807 then (some ((⟨#[92, 117, 50, 48, 50]⟩ : ByteArray) ++ (strOfNums y106), 3)) else (none))) else (some ((⟨#[]⟩ : ByteArray), 0))) else (none)) else (some ((⟨#[]⟩ : ByteArray), 0))) else (none)) else (some ((⟨#[]⟩ : ByteArray), 0))) else (some ((⟨#[]⟩ : ByteArray), 0)))))) else (none)) = some (r1, r2) := h
 clear h
 by_cases c2 : 0 < (l0.length : Int)
 ·rw [if_pos c2] at H
  have c2b0 : decide (0 < (l0.length : Int)) = true := decide_eq_true c2
  have c2b1 : decide (0 < l0.length) = true := decide_eq_true (by omega)
  clear c2
  by_cases c3 : (rd l0 0) = 60
  ·rw [if_pos c3] at H
   have c3b0 : ((rd l0 0) == 60) = true := beq_iff_eq.mpr c3
   have c3b1 : ((rd l0 0) != 60) = false := bne_eq_false_iff_eq.mpr c3
   clear c3
   simp only [Option.some.injEq, Prod.mk.injEq] at H
   obtain ⟨rfl, rfl⟩ := H
   have p101 : 0 ≤ (0 : Int) := (by omega)
   have q101 : 0 < (l0.length : Int) := of_decide_eq_true (by first | (with_reducible assumption) | assumption)
   obtain ⟨ad101, e101, hx101_0⟩ := Kd.at_int HR0.out 0 p101 q101
   cases e101
   have qi101 : (0 < l0.length) = True := eq_true (by omega)
   (try rw [show ((0 : Int)).toNat = 0 from rfl] at hx101_0)
   (try rw [Addr.add_zero'] at hx101_0)
   replace p101 := eq_true p101
   replace q101 := eq_true q101
   go_enter Tryd.func41, Tryd.ntmps41
   go_wp2
   go_ret2
   exact ⟨by first | rfl | (simp [errW_none, errW_some] <;> rfl) | (simp [*, errW_none, errW_some] <;> rfl), by repeat (first | (with_reducible first | exact HB.out | apply below_alloc | apply pw_below_drewN | apply below_drew1) | exact HB.out)⟩
  ·rw [if_neg c3] at H
   have c3b0 : ((rd l0 0) == 60) = false := beq_eq_false_iff_ne.mpr c3
   have c3b1 : ((rd l0 0) != 60) = true := bne_iff_ne.mpr c3
   by_cases c4 : (rd l0 0) = 62
   ·rw [if_pos c4] at H
    have c4b0 : ((rd l0 0) == 62) = true := beq_iff_eq.mpr c4
    have c4b1 : ((rd l0 0) != 62) = false := bne_eq_false_iff_eq.mpr c4
    clear c4
    simp only [Option.some.injEq, Prod.mk.injEq] at H
    obtain ⟨rfl, rfl⟩ := H
    have p101 : 0 ≤ (0 : Int) := (by omega)
    have q101 : 0 < (l0.length : Int) := of_decide_eq_true (by first | (with_reducible assumption) | assumption)
    obtain ⟨ad101, e101, hx101_0⟩ := Kd.at_int HR0.out 0 p101 q101
    cases e101
    have qi101 : (0 < l0.length) = True := eq_true (by omega)
    (try rw [show ((0 : Int)).toNat = 0 from rfl] at hx101_0)
    (try rw [Addr.add_zero'] at hx101_0)
    replace p101 := eq_true p101
    replace q101 := eq_true q101
    go_enter Tryd.func41, Tryd.ntmps41
    go_wp2
    go_ret2
    exact ⟨by first | rfl | (simp [errW_none, errW_some] <;> rfl) | (simp [*, errW_none, errW_some] <;> rfl), by repeat (first | (with_reducible first | exact HB.out | apply below_alloc | apply pw_below_drewN | apply below_drew1) | exact HB.out)⟩
   ·rw [if_neg c4] at H
    have c4b0 : ((rd l0 0) == 62) = false := beq_eq_false_iff_ne.mpr c4
    have c4b1 : ((rd l0 0) != 62) = true := bne_iff_ne.mpr c4
    by_cases c5 : (rd l0 0) = 38
    ·rw [if_pos c5] at H
     have c5b0 : ((rd l0 0) == 38) = true := beq_iff_eq.mpr c5
     have c5b1 : ((rd l0 0) != 38) = false := bne_eq_false_iff_eq.mpr c5
     clear c5
     simp only [Option.some.injEq, Prod.mk.injEq] at H
     obtain ⟨rfl, rfl⟩ := H
     have p101 : 0 ≤ (0 : Int) := (by omega)
     have q101 : 0 < (l0.length : Int) := of_decide_eq_true (by first | (with_reducible assumption) | assumption)
     obtain ⟨ad101, e101, hx101_0⟩ := Kd.at_int HR0.out 0 p101 q101
     cases e101
     have qi101 : (0 < l0.length) = True := eq_true (by omega)
     (try rw [show ((0 : Int)).toNat = 0 from rfl] at hx101_0)
     (try rw [Addr.add_zero'] at hx101_0)
     replace p101 := eq_true p101
     replace q101 := eq_true q101
     go_enter Tryd.func41, Tryd.ntmps41
     go_wp2
     go_ret2
     exact ⟨by first | rfl | (simp [errW_none, errW_some] <;> rfl) | (simp [*, errW_none, errW_some] <;> rfl), by repeat (first | (with_reducible first | exact HB.out | apply below_alloc | apply pw_below_drewN | apply below_drew1) | exact HB.out)⟩
    ·rw [if_neg c5] at H
     have c5b0 : ((rd l0 0) == 38) = false := beq_eq_false_iff_ne.mpr c5
     have c5b1 : ((rd l0 0) != 38) = true := bne_iff_ne.mpr c5
     by_cases c6 : (l0.length : Int) ≥ 3
     ·rw [if_pos c6] at H
      have c6b0 : decide (3 ≤ (l0.length : Int)) = true := decide_eq_true c6
      have c6b1 : decide (3 ≤ l0.length) = true := decide_eq_true (by omega)
      clear c6
      by_cases c7 : (rd l0 0) = 226
      ·rw [if_pos c7] at H
       have c7b0 : ((rd l0 0) == 226) = true := beq_iff_eq.mpr c7
       have c7b1 : ((rd l0 0) != 226) = false := bne_eq_false_iff_eq.mpr c7
       clear c7
       by_cases c8 : 1 < (l0.length : Int)
       ·rw [if_pos c8] at H
        have c8b0 : decide (1 < (l0.length : Int)) = true := decide_eq_true c8
        have c8b1 : decide (1 < l0.length) = true := decide_eq_true (by omega)
        clear c8
        by_cases c9 : (rd l0 1) = 128
        ·rw [if_pos c9] at H
         have c9b0 : ((rd l0 1) == 128) = true := beq_iff_eq.mpr c9
         have c9b1 : ((rd l0 1) != 128) = false := bne_eq_false_iff_eq.mpr c9
         clear c9
         by_cases c10 : 2 < (l0.length : Int)
         ·rw [if_pos c10] at H
          have c10b0 : decide (2 < (l0.length : Int)) = true := decide_eq_true c10
          have c10b1 : decide (2 < l0.length) = true := decide_eq_true (by omega)
          clear c10
          by_cases c11 : (Go.bits .andNot .u8 (rd l0 2) 1) = 168
          ·rw [if_pos c11] at H
           have c11b0 : ((Go.bits .andNot .u8 (rd l0 2) 1) == 168) = true := beq_iff_eq.mpr c11
           have c11b1 : ((Go.bits .andNot .u8 (rd l0 2) 1) != 168) = false := bne_eq_false_iff_eq.mpr c11
           clear c11
           obtain ⟨y106, hy106⟩ : ∃ y_ : List Int, y_ = (([(56 + (Go.bits .and .u8 (rd l0 2) 1)) % 256] : List Int)) := ⟨_, rfl⟩
           replace H : (if 5 + (strOfNums y106).size ≤ 9223372036854775807 then (some ((⟨#[92, 117, 50, 48, 50]⟩ : ByteArray) ++ (strOfNums y106), 3)) else (none)) = some (r1, r2) := by first | (rw [hy106]; with_reducible exact H) | (have H2_ := (Option.bind_some _ _).symm.trans H; rw [hy106]; with_reducible exact H2_) | (have H2_ := (Option.bind_some _ _).symm.trans H; with_reducible exact H2_) | with_reducible exact H | (rw [hy106]; exact H) | exact H
           have Ny106 := Aside0.mk hy106
           clear hy106
           by_cases c12 : 5 + (strOfNums y106).size ≤ 9223372036854775807
           ·rw [if_pos c12] at H
            have c12b0 := eq_true c12
            have c12b1 : decide (5 + (strOfNums y106).size ≤ 9223372036854775807) = true := decide_eq_true c12
            try have c12b2 : (9223372036854775807 < 5 + (strOfNums y106).size) = False := eq_false (Nat.not_lt.2 c12)
            simp only [Option.some.injEq, Prod.mk.injEq] at H
            obtain ⟨rfl, rfl⟩ := H
            have p101 : 0 ≤ (0 : Int) := (by omega)
            have q101 : 0 < (l0.length : Int) := of_decide_eq_true (by first | (with_reducible assumption) | assumption)
            obtain ⟨ad101, e101, hx101_0⟩ := Kd.at_int HR0.out 0 p101 q101
            cases e101
            have qi101 : (0 < l0.length) = True := eq_true (by omega)
            (try rw [show ((0 : Int)).toNat = 0 from rfl] at hx101_0)
            (try rw [Addr.add_zero'] at hx101_0)
            replace p101 := eq_true p101
            replace q101 := eq_true q101
            have p102 : 0 ≤ (0 : Int) := (by omega)
            have q102 : 0 < (l0.length : Int) := of_decide_eq_true (by first | (with_reducible assumption) | assumption)
            obtain ⟨ad102, e102, hx102_0⟩ := Kd.at_int HR0.out 0 p102 q102
            obtain rfl : ad101 = ad102 := (by injection e102)
            have qi102 : (0 < l0.length) = True := eq_true (by omega)
            (try rw [show ((0 : Int)).toNat = 0 from rfl] at hx102_0)
            (try rw [Addr.add_zero'] at hx102_0)
            replace p102 := eq_true p102
            replace q102 := eq_true q102
            have p103 : 0 ≤ (1 : Int) := (by omega)
            have q103 : 1 < (l0.length : Int) := of_decide_eq_true (by first | (with_reducible assumption) | assumption)
            obtain ⟨ad103, e103, hx103_0⟩ := Kd.at_int HR0.out 1 p103 q103
            obtain rfl : ad101 = ad103 := (by injection e103)
            (try simp only [show (1 : Int).toNat = 1 from rfl, Nat.reduceMul, Nat.reduceEqDiff, Go.Addr.add, ↓reduceIte] at hx103_0)
            have qi103 : (1 < l0.length) = True := eq_true (by omega)
            (try rw [show ((1 : Int)).toNat = 1 from rfl] at hx103_0)
            replace p103 := eq_true p103
            replace q103 := eq_true q103
            have p104 : 0 ≤ (2 : Int) := (by omega)
            have q104 : 2 < (l0.length : Int) := of_decide_eq_true (by first | (with_reducible assumption) | assumption)
            obtain ⟨ad104, e104, hx104_0⟩ := Kd.at_int HR0.out 2 p104 q104
            obtain rfl : ad101 = ad104 := (by injection e104)
            (try simp only [show (2 : Int).toNat = 2 from rfl, Nat.reduceMul, Nat.reduceEqDiff, Go.Addr.add, ↓reduceIte] at hx104_0)
            have qi104 : (2 < l0.length) = True := eq_true (by omega)
            (try rw [show ((2 : Int)).toNat = 2 from rfl] at hx104_0)
            replace p104 := eq_true p104
            replace q104 := eq_true q104
            have p105 : 0 ≤ (2 : Int) := (by omega)
            have q105 : 2 < (l0.length : Int) := of_decide_eq_true (by first | (with_reducible assumption) | assumption)
            obtain ⟨ad105, e105, hx105_0⟩ := Kd.at_int HR0.out 2 p105 q105
            obtain rfl : ad101 = ad105 := (by injection e105)
            (try simp only [show (2 : Int).toNat = 2 from rfl, Nat.reduceMul, Nat.reduceEqDiff, Go.Addr.add, ↓reduceIte] at hx105_0)
            have qi105 : (2 < l0.length) = True := eq_true (by omega)
            (try rw [show ((2 : Int)).toNat = 2 from rfl] at hx105_0)
            replace p105 := eq_true p105
            replace q105 := eq_true q105
            go_enter Tryd.func41, Tryd.ntmps41
            go_wp2_with (first | ((with_reducible refine gate_dst (N := 40) rfl ?_); refine Kd.R_lit (Kd.int .u8) _ 5 ?hg (N := 40) ?hd (xs := ([(56 + (Go.bits .and .u8 (rd l0 2) 1)) % 256] : List Int)) (inner := [.int .u8 ((56 + (Go.bits .and .u8 (rd l0 2) 1)) % 256)]) (ok := fun _ => True) (okp := fun _ => True) ?hr ?hp (fun _ hk => hk) trivial (Below.refl _ _) (Nat.le_refl _) (by simp) ?_; (case hd => rfl); (case hg => rfl); (case hr => first | (go_simp; done) | (go_simp; rfl)); (case hp => exact (Reps.one (show Kd.M (Kd.int .u8) _ _ _ ((56 + (Go.bits .and .u8 (rd l0 2) 1)) % 256) [.int .u8 ((56 + (Go.bits .and .u8 (rd l0 2) 1)) % 256)] from rfl) (Reps.none _ _))); intro v107 w13 ho14 hb hg_ hnew_; clear hg_ hnew_; (first | rw [← Ny106.out] at ho14 | (simp only [Int.reduceToNat] at ho14; rw [← Ny106.out] at ho14)); have n0_ := Aside0.mk (Kd.R_lower ho14 (below_size (by repeat (first | (with_reducible first | exact HB.out | apply below_alloc | apply pw_below_drewN | apply below_drew1) | exact HB.out)))); have n1_ := Aside0.mk (below_step (by repeat (first | (with_reducible first | exact HB.out | apply below_alloc | apply pw_below_drewN | apply below_drew1) | exact HB.out)) hb); clear HB; have HO108 := n0_; have HB := n1_; clear n0_ n1_; clear hb ho14; have hcv15 := own_string (P := Tryd.prog) Tryd.underlying22 Tryd.underlying5 Tryd.underlying9 (Kd.own_of_R HO108.out)))
            go_ret2
            exact ⟨by first | rfl | (simp [errW_none, errW_some] <;> rfl) | (simp [*, errW_none, errW_some] <;> rfl), by repeat (first | (with_reducible first | exact HB.out | apply below_alloc | apply pw_below_drewN | apply below_drew1) | exact HB.out)⟩
           ·rw [if_neg c12] at H
            exact absurd H (by simp)
          ·rw [if_neg c11] at H
           have c11b0 : ((Go.bits .andNot .u8 (rd l0 2) 1) == 168) = false := beq_eq_false_iff_ne.mpr c11
           have c11b1 : ((Go.bits .andNot .u8 (rd l0 2) 1) != 168) = true := bne_iff_ne.mpr c11
           simp only [Option.some.injEq, Prod.mk.injEq] at H
           obtain ⟨rfl, rfl⟩ := H
           have p101 : 0 ≤ (0 : Int) := (by omega)
           have q101 : 0 < (l0.length : Int) := of_decide_eq_true (by first | (with_reducible assumption) | assumption)
           obtain ⟨ad101, e101, hx101_0⟩ := Kd.at_int HR0.out 0 p101 q101
           cases e101
           have qi101 : (0 < l0.length) = True := eq_true (by omega)
           (try rw [show ((0 : Int)).toNat = 0 from rfl] at hx101_0)
           (try rw [Addr.add_zero'] at hx101_0)
           replace p101 := eq_true p101
           replace q101 := eq_true q101
           have p102 : 0 ≤ (0 : Int) := (by omega)
           have q102 : 0 < (l0.length : Int) := of_decide_eq_true (by first | (with_reducible assumption) | assumption)
           obtain ⟨ad102, e102, hx102_0⟩ := Kd.at_int HR0.out 0 p102 q102
           obtain rfl : ad101 = ad102 := (by injection e102)
           have qi102 : (0 < l0.length) = True := eq_true (by omega)
           (try rw [show ((0 : Int)).toNat = 0 from rfl] at hx102_0)
           (try rw [Addr.add_zero'] at hx102_0)
           replace p102 := eq_true p102
           replace q102 := eq_true q102
           have p103 : 0 ≤ (1 : Int) := (by omega)
           have q103 : 1 < (l0.length : Int) := of_decide_eq_true (by first | (with_reducible assumption) | assumption)
           obtain ⟨ad103, e103, hx103_0⟩ := Kd.at_int HR0.out 1 p103 q103
           obtain rfl : ad101 = ad103 := (by injection e103)
           (try simp only [show (1 : Int).toNat = 1 from rfl, Nat.reduceMul, Nat.reduceEqDiff, Go.Addr.add, ↓reduceIte] at hx103_0)
           have qi103 : (1 < l0.length) = True := eq_true (by omega)
           (try rw [show ((1 : Int)).toNat = 1 from rfl] at hx103_0)
           replace p103 := eq_true p103
           replace q103 := eq_true q103
           have p104 : 0 ≤ (2 : Int) := (by omega)
           have q104 : 2 < (l0.length : Int) := of_decide_eq_true (by first | (with_reducible assumption) | assumption)
           obtain ⟨ad104, e104, hx104_0⟩ := Kd.at_int HR0.out 2 p104 q104
           obtain rfl : ad101 = ad104 := (by injection e104)
           (try simp only [show (2 : Int).toNat = 2 from rfl, Nat.reduceMul, Nat.reduceEqDiff, Go.Addr.add, ↓reduceIte] at hx104_0)
           have qi104 : (2 < l0.length) = True := eq_true (by omega)
           (try rw [show ((2 : Int)).toNat = 2 from rfl] at hx104_0)
           replace p104 := eq_true p104
           replace q104 := eq_true q104
           go_enter Tryd.func41, Tryd.ntmps41
           go_wp2
           go_ret2
           exact ⟨by first | rfl | (simp [errW_none, errW_some] <;> rfl) | (simp [*, errW_none, errW_some] <;> rfl), by repeat (first | (with_reducible first | exact HB.out | apply below_alloc | apply pw_below_drewN | apply below_drew1) | exact HB.out)⟩
         ·rw [if_neg c10] at H
          exact absurd H (by simp)
        ·rw [if_neg c9] at H
         have c9b0 : ((rd l0 1) == 128) = false := beq_eq_false_iff_ne.mpr c9
         have c9b1 : ((rd l0 1) != 128) = true := bne_iff_ne.mpr c9
         simp only [Option.some.injEq, Prod.mk.injEq] at H
         obtain ⟨rfl, rfl⟩ := H
         have p101 : 0 ≤ (0 : Int) := (by omega)
         have q101 : 0 < (l0.length : Int) := of_decide_eq_true (by first | (with_reducible assumption) | assumption)
         obtain ⟨ad101, e101, hx101_0⟩ := Kd.at_int HR0.out 0 p101 q101
         cases e101
         have qi101 : (0 < l0.length) = True := eq_true (by omega)
         (try rw [show ((0 : Int)).toNat = 0 from rfl] at hx101_0)
         (try rw [Addr.add_zero'] at hx101_0)
         replace p101 := eq_true p101
         replace q101 := eq_true q101
         have p102 : 0 ≤ (0 : Int) := (by omega)
         have q102 : 0 < (l0.length : Int) := of_decide_eq_true (by first | (with_reducible assumption) | assumption)
         obtain ⟨ad102, e102, hx102_0⟩ := Kd.at_int HR0.out 0 p102 q102
         obtain rfl : ad101 = ad102 := (by injection e102)
         have qi102 : (0 < l0.length) = True := eq_true (by omega)
         (try rw [show ((0 : Int)).toNat = 0 from rfl] at hx102_0)
         (try rw [Addr.add_zero'] at hx102_0)
         replace p102 := eq_true p102
         replace q102 := eq_true q102
         have p103 : 0 ≤ (1 : Int) := (by omega)
         have q103 : 1 < (l0.length : Int) := of_decide_eq_true (by first | (with_reducible assumption) | assumption)
         obtain ⟨ad103, e103, hx103_0⟩ := Kd.at_int HR0.out 1 p103 q103
         obtain rfl : ad101 = ad103 := (by injection e103)
         (try simp only [show (1 : Int).toNat = 1 from rfl, Nat.reduceMul, Nat.reduceEqDiff, Go.Addr.add, ↓reduceIte] at hx103_0)
         have qi103 : (1 < l0.length) = True := eq_true (by omega)
         (try rw [show ((1 : Int)).toNat = 1 from rfl] at hx103_0)
         replace p103 := eq_true p103
         replace q103 := eq_true q103
         go_enter Tryd.func41, Tryd.ntmps41
         go_wp2
         go_ret2
         exact ⟨by first | rfl | (simp [errW_none, errW_some] <;> rfl) | (simp [*, errW_none, errW_some] <;> rfl), by repeat (first | (with_reducible first | exact HB.out | apply below_alloc | apply pw_below_drewN | apply below_drew1) | exact HB.out)⟩
       ·rw [if_neg c8] at H
        exact absurd H (by simp)
      ·rw [if_neg c7] at H
       have c7b0 : ((rd l0 0) == 226) = false := beq_eq_false_iff_ne.mpr c7
       have c7b1 : ((rd l0 0) != 226) = true := bne_iff_ne.mpr c7
       simp only [Option.some.injEq, Prod.mk.injEq] at H
       obtain ⟨rfl, rfl⟩ := H
       have p101 : 0 ≤ (0 : Int) := (by omega)
       have q101 : 0 < (l0.length : Int) := of_decide_eq_true (by first | (with_reducible assumption) | assumption)
       obtain ⟨ad101, e101, hx101_0⟩ := Kd.at_int HR0.out 0 p101 q101
       cases e101
       have qi101 : (0 < l0.length) = True := eq_true (by omega)
       (try rw [show ((0 : Int)).toNat = 0 from rfl] at hx101_0)
       (try rw [Addr.add_zero'] at hx101_0)
       replace p101 := eq_true p101
       replace q101 := eq_true q101
       have p102 : 0 ≤ (0 : Int) := (by omega)
       have q102 : 0 < (l0.length : Int) := of_decide_eq_true (by first | (with_reducible assumption) | assumption)
       obtain ⟨ad102, e102, hx102_0⟩ := Kd.at_int HR0.out 0 p102 q102
       obtain rfl : ad101 = ad102 := (by injection e102)
       have qi102 : (0 < l0.length) = True := eq_true (by omega)
       (try rw [show ((0 : Int)).toNat = 0 from rfl] at hx102_0)
       (try rw [Addr.add_zero'] at hx102_0)
       replace p102 := eq_true p102
       replace q102 := eq_true q102
       go_enter Tryd.func41, Tryd.ntmps41
       go_wp2
       go_ret2
       exact ⟨by first | rfl | (simp [errW_none, errW_some] <;> rfl) | (simp [*, errW_none, errW_some] <;> rfl), by repeat (first | (with_reducible first | exact HB.out | apply below_alloc | apply pw_below_drewN | apply below_drew1) | exact HB.out)⟩
     ·rw [if_neg c6] at H
      have c6b0 : decide (3 ≤ (l0.length : Int)) = false := decide_eq_false c6
      have c6b1 : decide (3 ≤ l0.length) = false := decide_eq_false (by omega)
      clear c6
      simp only [Option.some.injEq, Prod.mk.injEq] at H
      obtain ⟨rfl, rfl⟩ := H
      have p101 : 0 ≤ (0 : Int) := (by omega)
      have q101 : 0 < (l0.length : Int) := of_decide_eq_true (by first | (with_reducible assumption) | assumption)
      obtain ⟨ad101, e101, hx101_0⟩ := Kd.at_int HR0.out 0 p101 q101
      cases e101
      have qi101 : (0 < l0.length) = True := eq_true (by omega)
      (try rw [show ((0 : Int)).toNat = 0 from rfl] at hx101_0)
      (try rw [Addr.add_zero'] at hx101_0)
      replace p101 := eq_true p101
      replace q101 := eq_true q101
      go_enter Tryd.func41, Tryd.ntmps41
      go_wp2
      go_ret2
      exact ⟨by first | rfl | (simp [errW_none, errW_some] <;> rfl) | (simp [*, errW_none, errW_some] <;> rfl), by repeat (first | (with_reducible first | exact HB.out | apply below_alloc | apply pw_below_drewN | apply below_drew1) | exact HB.out)⟩
 ·rw [if_neg c2] at H
  exact absurd H (by simp)

/-! ### impl_own: function 26 -/
def impl_own.f (l0 : List Int) : Option (List Int) := (some (([] : List Int) : List Int)).bind fun y109 => (if y109.length + l0.length < 140737488355328 then (some (y109 ++ l0)) else (none))
set_option maxHeartbeats 8000000 in
set_option maxRecDepth 100000 in
theorem impl_own.calls (A0 : Option Addr) (c0 : Nat) (l0 : List Int) (r : List Int) (w : World) (hr0 : Kd.C (Kd.int .u8) w A0 l0.length l0) (hc0 : l0.length ≤ c0) (h : impl_own.f l0 = some r) :
  Calls Tryd.prog 26 #[.slice A0 l0.length c0] w fun e w' => ∃ v0_ : Value, e = .returned (v0_) ∧ Kd.R (Kd.int .u8) 5 w' w.heap.size (fun _ => True) v0_ r ∧ Below w.heap.size w w' := by
 have HR0 := Aside0.mk hr0
 have HC0 := Aside0.mk hc0
 clear hr0 hc0
 have HB := Aside0.mk (Below.refl w.heap.size w)
 have H : ((some (([] : List Int) : List Int)).bind fun y109 => (if y109.length + l0.length < 140737488355328 then (some (y109 ++ l0)) else (none))) = some r := h
 clear h
 obtain ⟨y109, hy109⟩ : ∃ y_ : List Int, y_ = (([] : List Int)) := ⟨_, rfl⟩
 replace H : (if y109.length + l0.length < 140737488355328 then (some (y109 ++ l0)) else (none)) = some r := by first | (rw [hy109]; with_reducible exact H) | (have H2_ := (Option.bind_some _ _).symm.trans H; rw [hy109]; with_reducible exact H2_) | (have H2_ := (Option.bind_some _ _).symm.trans H; with_reducible exact H2_) | with_reducible exact H | (rw [hy109]; exact H) | exact H
 have Ny109 := Aside0.mk hy109
 clear hy109
 by_cases c2 : y109.length + l0.length < 140737488355328
 ·rw [if_pos c2] at H
  have LMc2 := Aside0.mk c2
  clear c2
  obtain ⟨y112, hy112⟩ : ∃ y_ : List Int, y_ = (y109 ++ l0) := ⟨_, rfl⟩
  replace H : (some y112) = some r := by first | (rw [hy112]; with_reducible exact H) | (have H2_ := (Option.bind_some _ _).symm.trans H; rw [hy112]; with_reducible exact H2_) | (have H2_ := (Option.bind_some _ _).symm.trans H; with_reducible exact H2_) | with_reducible exact H | (rw [hy112]; exact H) | exact H
  have Ny112 := Aside0.mk hy112
  clear hy112
  obtain rfl := Option.some.inj H
  go_enter Tryd.func26, Tryd.ntmps26
  go_wp2_with (first | ((with_reducible refine gate_dst (N := 3) rfl ?_); refine Kd.R_lit (Kd.int .u8) _ 5 ?hg (N := 3) ?hd (xs := ([] : List Int)) (inner := []) (ok := fun _ => True) (okp := fun _ => True) ?hr ?hp (fun _ hk => hk) trivial (Below.refl _ _) (Nat.le_refl _) (by simp) ?_; (case hd => rfl); (case hg => rfl); (case hr => first | (go_simp; done) | (go_simp; rfl)); (case hp => exact (Reps.none _ _)); intro v110 w3 ho4 hb hg_ hnew_; clear hg_ hnew_; (first | rw [← Ny109.out] at ho4 | (simp only [Int.reduceToNat] at ho4; rw [← Ny109.out] at ho4)); have n0_ := Aside0.mk (Kd.R_lower ho4 (below_size (by repeat (first | (with_reducible first | exact HB.out | apply below_alloc | apply pw_below_drewN | apply below_drew1) | exact HB.out)))); have n1_ := Aside0.mk (below_step (by repeat (first | (with_reducible first | exact HB.out | apply below_alloc | apply pw_below_drewN | apply below_drew1) | exact HB.out)) hb); clear HB; have HO111 := n0_; have HB := n1_; clear n0_ n1_; clear hb ho4) | ((with_reducible refine gate_builtin (b := .append) (xs := #[.tmp 3, .tmp 4]) rfl ?_); at_builtin; refine Kd.R_append_rows (Kd.int .u8) (w0 := w) w.heap.size rfl (.tmp 3) (.tmp 4) 22 5 (.int .u8 0) 1 rfl Tryd.underlying22 info5 rfl (by decide) (by omega) v110 y109 l0 _ _ _ (fun _ => True) (fun _ => False) rfl rfl ?aO ?aR (fun _ _ h => h) (fun _ h => h.elim) ?aF ?aB ?aS ?aL ?_; (case aR => repeat (first | exact (Kd.C_below HR0.out HB.out) | (with_reducible refine Kd.C_alloc ?_ _) | (with_reducible refine Kd.C_drewN ?_ _) | (with_reducible refine Kd.C_drew ?_))); (case aB => exact (by repeat (first | (with_reducible first | exact HB.out | apply below_alloc | apply pw_below_drewN | apply below_drew1) | exact HB.out))); (case aF => exact (fun _ _ => trivial)); (case aO => exact (by (with_reducible repeat (first | apply Kd.R_alloc | apply Kd.R_drewN | apply Kd.R_drew)); exact HO111.out)); (case aS => exact (below_size (by repeat (first | (with_reducible first | exact HB.out | apply below_alloc | apply pw_below_drewN | apply below_drew1) | exact HB.out)))); (case aL => have := LMc2.out; omega); intro v113 w5 ho hb hg hat; rw [← Ny112.out] at ho; have n0_ := Aside0.mk (hb); have n1_ := Aside0.mk (ho); clear HB; clear HO111; have HB := n0_; have HO114 := n1_; clear n0_ n1_; clear ho hb hg hat))
  go_ret
  exact ⟨_, by first | rfl | (simp [errW_none, errW_some] <;> rfl) | (simp [*, errW_none, errW_some] <;> rfl), by (with_reducible repeat (first | apply Kd.R_alloc | apply Kd.R_drewN | apply Kd.R_drew)); exact HO114.out, by repeat (first | (with_reducible first | exact HB.out | apply below_alloc | apply pw_below_drewN | apply below_drew1) | exact HB.out)⟩
 ·rw [if_neg c2] at H
  exact absurd H (by simp)

end Go.Proofs.YtbikiibpjdiaaaaDoor.QM
