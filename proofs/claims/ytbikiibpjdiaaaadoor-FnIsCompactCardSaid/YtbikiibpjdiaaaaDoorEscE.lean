/- escapeEnd: where an escape ends, or -1. -/
import Derived.Test.YtbikiibpjdiaaaaDoorFB
namespace Go.Proofs.YtbikiibpjdiaaaaDoor.Err
open Go.RowKit Go.Proofs.YtbikiibpjdiaaaaDoorW.PrintWords Go.Proofs.YtbikiibpjdiaaaaDoorW.PrintLast Go.Proofs.YtbikiibpjdiaaaaDoorW.PrintMore
open Go.Proofs.YtbikiibpjdiaaaaDoor.Tab
set_option linter.unusedVariables false
/-- The place behind an escape in bytes, or -1. -/
def escL (l : List Int) (x : Int) : Int :=
 if isEsc (rd l x) then x + 1 else if rd l x = 117 ∧ x + 5 ≤ l.length ∧ isHex (rd l (x + 1)) ∧ isHex (rd l (x + 2)) ∧ isHex (rd l (x + 3)) ∧ isHex (rd l (x + 4)) then x + 5 else -1
def escEnd.f (l : List Int) (a : Int) : Option Int := if 0 ≤ a ∧ l.length ≤ 70000000 then some (if a < l.length then escL l a else -1) else none
theorem hex_no (c : Int) (h : ¬ isHex c) : (48 ≤ c → ¬ c ≤ 57) ∧ (97 ≤ c → ¬ c ≤ 102) ∧ (65 ≤ c → ¬ c ≤ 70) := by unfold isHex isDig at h; omega
set_option maxRecDepth 100000 in
set_option maxHeartbeats 8000000 in
theorem escEnd.calls (A0 : Option Addr) (c0 : Nat) (l0 : List Int) (a1 : Int) (r : Int) (w : World) (hr0 : Kd.C (Kd.int .u8) w A0 l0.length l0) (hc0 : l0.length ≤ c0) (h : escEnd.f l0 a1 = some r) :
  Calls Tryd.prog 71 #[.slice A0 l0.length c0, .int .i64 a1] w fun e w' => e = .returned (.int .i64 r) ∧ Drawn0 w w' := by
 unfold escEnd.f at h
 split at h
 case isFalse => cases h
 rename_i hh
 obtain ⟨h0, hs⟩ := hh
 obtain rfl := Option.some.inj h
 clear h
 by_cases c1 : a1 < l0.length
 ·rw [if_pos c1]
  obtain ⟨ad, rfl, hx⟩ := Kd.at_int hr0 a1 h0 c1
  have b1 : decide ((l0.length : Int) ≤ a1) = false := decide_eq_false (by omega)
  have b2 : (0 ≤ a1) = True := eq_true h0
  have b3 : (a1 < (l0.length : Int)) = True := eq_true c1
  have e1 : wrap64 (a1 + 1) = a1 + 1 := by unfold wrap64; omega
  have e5 : wrap64 (a1 + 5) = a1 + 5 := by unfold wrap64; omega
  unfold escL
  by_cases he : isEsc (rd l0 a1)
  ·rw [if_pos he]
   have HE := Aside0.mk he
   unfold isEsc at he
   generalize rd l0 a1 = y at he hx
   clear HE hr0
   rcases he with rfl | rfl | rfl | rfl | rfl | rfl | rfl | rfl <;>
   ·go_enter Tryd.func71, Tryd.ntmps71
    go_wp2
    go_ret
    exact ⟨by first | rfl | simp [e1], Drawn0.refl _⟩
  ·rw [if_neg he]
   have f1 : (rd l0 a1 == 34) = false := beq_eq_false_iff_ne.mpr (fun h => he (by unfold isEsc; omega))
   have f2 : (rd l0 a1 == 92) = false := beq_eq_false_iff_ne.mpr (fun h => he (by unfold isEsc; omega))
   have f3 : (rd l0 a1 == 47) = false := beq_eq_false_iff_ne.mpr (fun h => he (by unfold isEsc; omega))
   have f4 : (rd l0 a1 == 98) = false := beq_eq_false_iff_ne.mpr (fun h => he (by unfold isEsc; omega))
   have f5 : (rd l0 a1 == 102) = false := beq_eq_false_iff_ne.mpr (fun h => he (by unfold isEsc; omega))
   have f6 : (rd l0 a1 == 110) = false := beq_eq_false_iff_ne.mpr (fun h => he (by unfold isEsc; omega))
   have f7 : (rd l0 a1 == 114) = false := beq_eq_false_iff_ne.mpr (fun h => he (by unfold isEsc; omega))
   have f8 : (rd l0 a1 == 116) = false := beq_eq_false_iff_ne.mpr (fun h => he (by unfold isEsc; omega))
   clear he
   by_cases hu : rd l0 a1 = 117
   ·have f9 : (rd l0 a1 == 117) = true := beq_iff_eq.mpr hu
    by_cases h5 : a1 + 5 ≤ l0.length
    ·have g5 : decide ((l0.length : Int) < a1 + 5) = false := decide_eq_false (by omega)
     have HR := Aside0.mk hr0
     have hcell : ∀ k : Nat, k < 4 → w.cell? ((ad.add (a1 + 1).toNat).add k) = some (.int .u8 (rd l0 (a1 + 1 + k))) := fun k hk => by
      obtain ⟨ad2, e2, hx2⟩ := Kd.at_int HR.out (a1 + 1 + k) (by omega) (by omega)
      cases e2
      rw [add_add, show (a1 + 1).toNat + k = (a1 + 1 + k).toNat by omega]
      exact hx2
     have HCE := Aside0.mk hcell
     have HOK : Aside0 ((∀ k : Nat, k < 4 → isHex (rd l0 (a1 + 1 + k))) → (if rd l0 a1 = 117 ∧ a1 + 5 ≤ l0.length ∧ isHex (rd l0 (a1 + 1)) ∧ isHex (rd l0 (a1 + 2)) ∧ isHex (rd l0 (a1 + 3)) ∧ isHex (rd l0 (a1 + 4)) then a1 + 5 else -1) = a1 + 5) := ⟨fun h => by
      have d0 := h 0 (by omega)
      have d1 := h 1 (by omega)
      have d2 := h 2 (by omega)
      have d3 := h 3 (by omega)
      rw [show a1 + 1 + ((0 : Nat) : Int) = a1 + 1 by omega] at d0
      rw [show a1 + 1 + ((1 : Nat) : Int) = a1 + 2 by omega] at d1
      rw [show a1 + 1 + ((2 : Nat) : Int) = a1 + 3 by omega] at d2
      rw [show a1 + 1 + ((3 : Nat) : Int) = a1 + 4 by omega] at d3
      exact if_pos ⟨hu, h5, d0, d1, d2, d3⟩⟩
     have HBAD : Aside0 (∀ k : Nat, k < 4 → ¬ isHex (rd l0 (a1 + 1 + k)) → (if rd l0 a1 = 117 ∧ a1 + 5 ≤ l0.length ∧ isHex (rd l0 (a1 + 1)) ∧ isHex (rd l0 (a1 + 2)) ∧ isHex (rd l0 (a1 + 3)) ∧ isHex (rd l0 (a1 + 4)) then a1 + 5 else -1) = -1) := ⟨fun k hk hn => by
      refine if_neg ?_
      rintro ⟨_, _, d0, d1, d2, d3⟩
      have : k = 0 ∨ k = 1 ∨ k = 2 ∨ k = 3 := by omega
      rcases this with rfl | rfl | rfl | rfl
      ·rw [show a1 + 1 + ((0 : Nat) : Int) = a1 + 1 by omega] at hn; exact hn d0
      ·rw [show a1 + 1 + ((1 : Nat) : Int) = a1 + 2 by omega] at hn; exact hn d1
      ·rw [show a1 + 1 + ((2 : Nat) : Int) = a1 + 3 by omega] at hn; exact hn d2
      ·rw [show a1 + 1 + ((3 : Nat) : Int) = a1 + 4 by omega] at hn; exact hn d3⟩
     generalize (if rd l0 a1 = 117 ∧ a1 + 5 ≤ l0.length ∧ isHex (rd l0 (a1 + 1)) ∧ isHex (rd l0 (a1 + 2)) ∧ isHex (rd l0 (a1 + 3)) ∧ isHex (rd l0 (a1 + 4)) then a1 + 5 else -1) = R at HOK HBAD ⊢
     have HU := Aside0.mk hu
     have H5 := Aside0.mk h5
     clear hr0 hcell hu
     have e4 : (a1 + 5).toNat - (a1 + 1).toNat = 4 := by omega
     go_enter Tryd.func71, Tryd.ntmps71
     go_wp2_with fail
     go_loopg [40] 5 (fun kq v40 w' => ∃ k : Nat, v40 = .int .i64 k ∧ Aside0 (k ≤ 4 ∧ 5 ≤ k + kq ∧ ∀ j : Nat, j < k → isHex (rd l0 (a1 + 1 + j))) ∧ Drawn0 w w')
     case atStart => exact ⟨0, rfl, ⟨by omega, by omega, fun j hj => by omega⟩, Drawn0.refl _⟩
     case round =>
      obtain ⟨k, rfl, HA, ⟨m2, rfl⟩⟩ := hrel
      obtain ⟨k1, k2, k3⟩ := HA.out
      have K3 := Aside0.mk k3
      clear HA k3
      have ek : wrap64 ((k : Int) + 1) = ((k + 1 : Nat) : Int) := by unfold wrap64; omega
      obtain _ | g0 := gk
      ·exfalso; omega
      by_cases k4 : k < 4
      ·have hc := HCE.out k k4
       have l4 : decide ((k : Int) < 4) = true := decide_eq_true (by omega)
       by_cases hx2 : isHex (rd l0 (a1 + 1 + k))
       ·have HX := Aside0.mk hx2
        unfold isHex isDig at hx2
        generalize rd l0 (a1 + 1 + k) = y at hx2 hc
        go_wp2_with fail
        all_goals try (exfalso; omega)
        all_goals try (exfalso; simp only [Bool.not_eq_true', Bool.not_eq_false', decide_eq_true_eq, decide_eq_false_iff_not] at *; omega)
        all_goals
         go_roundg g0
         case measure => omega
         case rel => exact ⟨k + 1, by first | rfl | simp | (simp [ek]; done), ⟨by omega, by omega, fun j hj => if hjk : j = k then by rw [hjk]; exact HX.out else K3.out j (by omega)⟩, by repeat (first | exact Drawn0.refl _ | apply Drawn0.step)⟩
       ·have hn := hex_no _ hx2
        have HR2 := HBAD.out k k4 hx2
        subst HR2
        clear hx2 HBAD HOK
        generalize rd l0 (a1 + 1 + k) = y at hn hc
        go_wp2_with fail
        all_goals first
         | (exfalso; omega)
         | (go_ret; exact ⟨rfl, by repeat (first | exact Drawn0.refl _ | apply Drawn0.step)⟩)
      ·have l4 : decide ((k : Int) < 4) = false := decide_eq_false (by omega)
       have HR2 := HOK.out (fun j hj => K3.out j (by omega))
       subst HR2
       clear HBAD HOK
       go_wp2_with fail
       go_ret
       exact ⟨rfl, by repeat (first | exact Drawn0.refl _ | apply Drawn0.step)⟩
    ·have g5 : decide ((l0.length : Int) < a1 + 5) = true := decide_eq_true (by omega)
     rw [if_neg (fun h => h5 h.2.1)]
     clear hr0
     go_enter Tryd.func71, Tryd.ntmps71
     go_wp2
     go_ret
     exact ⟨rfl, Drawn0.refl _⟩
   ·have f9 : (rd l0 a1 == 117) = false := beq_eq_false_iff_ne.mpr hu
    rw [if_neg (fun h => hu h.1)]
    clear hr0
    go_enter Tryd.func71, Tryd.ntmps71
    go_wp2
    go_ret
    exact ⟨rfl, Drawn0.refl _⟩
 ·rw [if_neg c1]
  have b1 : decide ((l0.length : Int) ≤ a1) = true := decide_eq_true (by omega)
  go_enter Tryd.func71, Tryd.ntmps71
  go_wp2
  go_ret
  exact ⟨rfl, Drawn0.refl _⟩
end Go.Proofs.YtbikiibpjdiaaaaDoor.Err
