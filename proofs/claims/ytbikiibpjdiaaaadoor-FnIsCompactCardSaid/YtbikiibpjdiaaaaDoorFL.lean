/- What stands ahead of the walk over compact JSON (lookedAtByCompact, hasControl), and behind it (appendHTMLEscaped). -/
import Derived.Test.YtbikiibpjdiaaaaDoorFG
import Derived.Test.YtbikiibpjdiaaaaDoorQK1
import Derived.Test.YtbikiibpjdiaaaaDoorFM
import Derived.Test.YtbikiibpjdiaaaaDoorFF
import Derived.Lib.SmallJoins
namespace Go.Proofs.YtbikiibpjdiaaaaDoor.Err
open Go.RowKit Go.Proofs.YtbikiibpjdiaaaaDoorW.PrintWords Go.Proofs.YtbikiibpjdiaaaaDoorW.PrintLast Go.Proofs.YtbikiibpjdiaaaaDoorW.PrintMore Go.Proofs.YtbikiibpjdiaaaaDoor.Dig Go.Proofs.YtbikiibpjdiaaaaDoor.Tab Go.Proofs.YtbikiibpjdiaaaaDoor.QF Go.Proofs.YtbikiibpjdiaaaaDoor.QK
set_option linter.unusedVariables false
/-- A byte that is not looked at. -/
def Still (o c : Int) : Prop := 32 ≤ c ∧ c ≠ 92 ∧ (o = 1 → c ≠ 60 ∧ c ≠ 62 ∧ c ≠ 38 ∧ c ≠ 226)
theorem looked_l (l : List Int) (hl : l.length ≤ 70000000) (o : Int) : ∀ (n : Nat) (x : Int), 0 ≤ x → x ≤ l.length → (l.length : Int) - x = n → (∀ y : Int, 0 ≤ y → y < x → Still o (rd l y)) →
  ∃ r, gojsonformat_lookedAtByCompact.l0 (n + 1) o l l.length x = some r ∧ (r = false → ∀ y : Int, 0 ≤ y → y < l.length → Still o (rd l y)) := by
 intro n
 induction n with
 | zero =>
  intro x h0 h1 hn h
  unfold gojsonformat_lookedAtByCompact.l0
  rw [if_neg (by omega)]
  exact ⟨false, rfl, fun _ y a b => h y a (by omega)⟩
 | succ n ih =>
  intro x h0 h1 hn h
  have e1 : wrap64 (x + 1) = x + 1 := by unfold wrap64; omega
  have step : Still o (rd l x) → ∃ r, gojsonformat_lookedAtByCompact.l0 (n + 1) o l l.length (x + 1) = some r ∧ (r = false → ∀ y : Int, 0 ≤ y → y < l.length → Still o (rd l y)) := fun hs =>
   ih (x + 1) (by omega) (by omega) (by omega) (fun y a b => by
    by_cases hy : y < x
    ·exact h y a hy
    ·rw [show y = x by omega]; exact hs)
  unfold gojsonformat_lookedAtByCompact.l0
  rw [if_pos (by omega), if_pos h0, if_pos (by omega), e1]
  unfold Still at step
  repeat' split
  all_goals first
   | exact ⟨true, rfl, fun h => by cases h⟩
   | exact step (by omega)
theorem control_l (l : List Int) (hl : l.length ≤ 70000000) : ∀ (n : Nat) (x : Int), 0 ≤ x → x ≤ l.length → (l.length : Int) - x = n → (∀ y : Int, 0 ≤ y → y < x → 32 ≤ rd l y) →
  ∃ r, gojsonformat_hasControl.l0 (n + 1) l l.length x = some r ∧ (r = false → ∀ y : Int, 0 ≤ y → y < l.length → 32 ≤ rd l y) := by
 intro n
 induction n with
 | zero =>
  intro x h0 h1 hn h
  unfold gojsonformat_hasControl.l0
  rw [if_neg (by omega)]
  exact ⟨false, rfl, fun _ y a b => h y a (by omega)⟩
 | succ n ih =>
  intro x h0 h1 hn h
  have e1 : wrap64 (x + 1) = x + 1 := by unfold wrap64; omega
  unfold gojsonformat_hasControl.l0
  rw [if_pos (by omega), if_pos h0, if_pos (by omega), e1]
  split
  ·exact ⟨true, rfl, fun h => by cases h⟩
  ·exact ih (x + 1) (by omega) (by omega) (by omega) (fun y a b => by
    by_cases hy : y < x
    ·exact h y a hy
    ·rw [show y = x by omega]; omega)
theorem mem_rd {l : List Int} {p : Int → Prop} (h : ∀ y : Int, 0 ≤ y → y < l.length → p (rd l y)) : ∀ y ∈ l, p y := fun y hy => by
 obtain ⟨k, hk, rfl⟩ := List.getElem_of_mem hy
 have h2 := h (k : Int) (by omega) (by omega)
 obtain ⟨_, e⟩ := rd_get l (k : Int) (by omega) (by omega)
 rw [e] at h2
 simpa using h2
section
variable {N : Nat} {w w' : World} {v u : Value} {A : Option Addr} {ad : Addr} {c : Nat} {xs l L : List Int} {esc : Bool} {x e : Int}
theorem looked (hC : Kd.C (Kd.int .u8) w A l.length l) (hcap : l.length ≤ c) (hl : l.length ≤ 70000000) (o : Int) :
  ∃ r, Calls Tryd.prog 63 #[.int .i64 o, .slice A l.length c] w (fun e w' => e = .returned (.bool r) ∧ Drawn0 w w') ∧ (r = false → ∀ y ∈ l, Still o y) := by
 obtain ⟨r, h, hp⟩ := looked_l l hl o l.length 0 (by omega) (by omega) (by omega) (fun y a b => by omega)
 exact ⟨r, gojsonformat_lookedAtByCompact.calls _ o A c l r w hC hcap h, fun e => mem_rd (hp e)⟩
theorem control (hC : Kd.C (Kd.int .u8) w A l.length l) (hcap : l.length ≤ c) (hl : l.length ≤ 70000000) :
  ∃ r, Calls Tryd.prog 64 #[.slice A l.length c] w (fun e w' => e = .returned (.bool r) ∧ Drawn0 w w') ∧ (r = false → ∀ y ∈ l, 32 ≤ y) := by
 obtain ⟨r, h, hp⟩ := control_l l hl l.length 0 (by omega) (by omega) (by omega) (fun y a b => by omega)
 exact ⟨r, gojsonformat_hasControl.calls _ A c l r w hC hcap h, fun e => mem_rd (hp e)⟩
theorem lineL (h0 : 0 ≤ x) : lineEnd (l ++ [0]) x ↔ (x + 2 < l.length ∧ rd l x = 226 ∧ rd l (x + 1) = 128 ∧ (rd l (x + 2) = 168 ∨ rd l (x + 2) = 169)) := by
 have hlen : ((l ++ [(0 : Int)]).length : Int) = l.length + 1 := by rw [List.length_append]; rfl
 unfold lineEnd
 rw [hlen]
 constructor
 ·rintro ⟨a, b, c, d⟩
  have b2 : x + 2 < l.length := by omega
  rw [rdL (by omega) (by omega)] at a c
  rw [rdL (x := x + 2) (by omega) (by omega)] at d
  exact ⟨b2, a, c, d⟩
 ·rintro ⟨b, a, c, d⟩
  rw [rdL (by omega) (by omega), rdL (by omega) (by omega), rdL (by omega) (by omega)]
  exact ⟨a, by omega, c, d⟩
set_option maxRecDepth 100000 in
set_option maxHeartbeats 16000000 in
theorem htmlEscaped (h : Dr N w v xs A c l) (hne : ∀ a : Addr, A = some a → some a.block ≠ v.ownBlock) :
  Calls Tryd.prog 65 #[v, .slice A l.length c] w fun e w' => ∃ v', e = .returned v' ∧ Own N w' v' (xs ++ ew (l ++ [0]) true l.length (l ++ [0]).length 0) ∧ Grew w v w' v' := by
 have hlen : ((l ++ [(0 : Int)]).length : Int) = l.length + 1 := by rw [List.length_append]; rfl
 have hsm := h.len
 have hcap := h.cap
 have HD := Aside0.mk h
 have HLEN := Aside0.mk hlen
 have HC : Aside0 (∀ v' w', Grew w v w' v' → Kd.C (Kd.int .u8) w' A l.length l) := ⟨fun v' w' hg => C_grown h.src hg.1 hne⟩
 have HBY : Aside0 (∀ y : Int, 0 ≤ y → y < l.length → 0 ≤ rd l y ∧ rd l y < 256) := ⟨fun y a b => by obtain ⟨_, e⟩ := rd_get l y a b; rw [e]; exact h.byt _ (List.getElem_mem _)⟩
 obtain ⟨R, hR⟩ : ∃ R, R = ew (l ++ [0]) true l.length (l ++ [0]).length 0 := ⟨_, rfl⟩
 rw [← hR]
 have HR := Aside0.mk hR
 clear h hne hR hlen
 go_enter Tryd.func65, Tryd.ntmps65
 go_wp2_with fail
 go_loopg [0, 5] (l.length + 1) (fun kq v0 v5 w' => ∃ (i : Int) (E : List Int), v5 = .int .i64 i ∧ Aside0 (0 ≤ i ∧ i ≤ l.length ∧ (E.length : Int) ≤ 6 * i ∧ (l.length : Int) + 1 ≤ i + kq) ∧ Aside0 (R = E ++ ew (l ++ [0]) true l.length (l ++ [0]).length i) ∧ Aside0 (Own N w' v0 (xs ++ E)) ∧ Aside0 (Grew w v w' v0))
 case atStart => exact ⟨0, [], rfl, ⟨by omega, by omega, by simp, by omega⟩, ⟨by rw [HR.out]; rfl⟩, ⟨by rw [List.append_nil]; exact HD.out.own⟩, ⟨Grew.refl _ _⟩⟩
 case round =>
  obtain ⟨i, E, rfl, HA, HE, HO, HG⟩ := hrel
  obtain ⟨a1, a2, a3, a4⟩ := HA.out
  obtain _ | g0 := gk
  ·exfalso; omega
  have e1 : wrap64 (i + 1) = i + 1 := by unfold wrap64; omega
  have HSZ : Aside0 (N ≤ wr.heap.size) := ⟨Nat.le_trans HD.out.size HG.out.size⟩
  have hew := ew_at (L := l ++ [0]) (esc := true) (e := l.length) (x := i) (by have := HLEN.out; omega) a1
  by_cases hil : i < l.length
  ·have b1 : decide (i < (l.length : Int)) = true := decide_eq_true hil
   obtain ⟨ad, hA, hxi⟩ := Kd.at_int (HC.out _ _ HG.out) i a1 hil
   rw [if_pos hil] at hew
   cases hA
   by_cases c4 : sign (rd l i)
   ·rw [if_pos ⟨rfl, by rw [rdL a1 hil]; exact c4⟩, rdL a1 hil] at hew
    unfold sign at c4
    clear a2 a3 a4
    have k1 : Go.bits .and .u8 60 15 = 12 := by decide +kernel
    have k2 : Go.bits .and .u8 62 15 = 14 := by decide +kernel
    have k3 : Go.bits .and .u8 38 15 = 6 := by decide +kernel
    have HEW := Aside0.mk hew
    clear hew
    generalize rd l i = ch at c4 hxi HEW
    obtain ⟨T3, hT3⟩ : ∃ T3, T3 = escS ch := ⟨_, rfl⟩
    rw [← hT3] at HEW
    have HT3 := Aside0.mk hT3
    clear hT3
    rcases c4 with rfl | rfl | rfl
    all_goals
     go_wp2_with fail
     go_region_law ((apply step_app (v := u0) (x := .slice (some ⟨wr.heap.size, 0, none⟩) 6 6) (xs := xs ++ E) (ys := T3) (N := N)); (case hg => rfl); (case ho => rfl); (case hs => rfl); (case hx => rfl); (case hown => first | exact HO.out.move (below_alloc (Below.refl _ _) _).drew | exact HO.out.move (below_alloc (Below.refl _ _).drew _)); (case hsrc => (refine src_new (b := wr.heap.size) ?_ (by rw [HT3.out]; rfl); exact ⟨_, blk_new wr _, by rw [HT3.out]; rfl⟩)); (case hb => (have := HA.out; have := HD.out.xln; have h6 : T3.length = 6 := (by rw [HT3.out]; rfl); rw [List.length_append]; omega)); (case hN => (have := HSZ.out; simp; omega)); (intro v2 w2 ho2 hg2; have HO2 := Aside0.mk ho2; have HG2 := Aside0.mk hg2; clear ho2 hg2))
     all_goals
      go_wp2_with fail
      go_roundg g0
      case measure => omega
      case rel => exact ⟨i + 1, E ++ T3, by first | rfl | rw [e1], ⟨by have := HA.out; omega, by have := HA.out; omega, by have := HA.out; have h6 : T3.length = 6 := (by rw [HT3.out]; rfl); rw [List.length_append]; omega, by have := HA.out; omega⟩, ⟨by rw [List.append_assoc, ← HEW.out]; exact HE.out⟩, ⟨by rw [← List.append_assoc]; exact HO2.out⟩, ⟨HG.out.trans (((Grew.refl wr u0).alloc _).drew.trans HG2.out)⟩⟩
   ·rw [if_neg (fun h => c4 (by rw [← rdL a1 hil]; exact h.2))] at hew
    have f60 : (rd l i == 60) = false := beq_eq_false_iff_ne.mpr (fun h => c4 (by unfold sign; omega))
    have f62 : (rd l i == 62) = false := beq_eq_false_iff_ne.mpr (fun h => c4 (by unfold sign; omega))
    have f38 : (rd l i == 38) = false := beq_eq_false_iff_ne.mpr (fun h => c4 (by unfold sign; omega))
    have e2 : wrap64 (i + 2) = i + 2 := by unfold wrap64; omega
    have e3 : wrap64 (i + 2 + 1) = i + 3 := by unfold wrap64; omega
    by_cases c5 : lineEnd (l ++ [0]) i
    ·rw [if_pos ⟨rfl, c5⟩] at hew
     obtain ⟨d2, d1, d3, d4⟩ := (lineL a1).1 c5
     rw [rdL (by omega) (by omega)] at hew
     have HEW := Aside0.mk hew
     obtain ⟨_, hA, hx1⟩ := Kd.at_int (HC.out _ _ HG.out) (i + 1) (by omega) (by omega)
     cases hA
     obtain ⟨_, hA, hx2⟩ := Kd.at_int (HC.out _ _ HG.out) (i + 2) (by omega) (by omega)
     cases hA
     rw [d1] at hxi
     rw [d3] at hx1
     have b2 : decide (i + 2 < (l.length : Int)) = true := decide_eq_true d2
     have k1 : Go.bits .andNot .u8 168 1 = 168 := by decide +kernel
     have k2 : Go.bits .andNot .u8 169 1 = 168 := by decide +kernel
     have k3 : Go.bits .and .u8 168 15 = 8 := by decide +kernel
     have k4 : Go.bits .and .u8 169 15 = 9 := by decide +kernel
     clear a2 a3 a4 hew c4 c5 d1 d3 f60 f62 f38
     generalize rd l (i + 2) = z at d4 hx2 HEW
     obtain ⟨T3, hT3⟩ : ∃ T3, T3 = escU z := ⟨_, rfl⟩
     rw [← hT3] at HEW
     have HT3 := Aside0.mk hT3
     clear hT3
     rcases d4 with rfl | rfl
     all_goals
      go_wp2_with ((with_reducible refine gate_builtin (b := .append) (xs := #[.tmp 68, .tmp 76]) rfl ?_); at_builtin; refine wpList_app rfl (.tmp 68) (.tmp 76) 22 rfl u0 _ (xs ++ E) T3 rfl rfl (HO.out.move (below_alloc (Below.refl _ _) _)) ?aS ?aB ?aN ?_; (case aS => (refine src_new (b := wr.heap.size) ?_ (by rw [HT3.out]; rfl); exact ⟨_, blk_new wr _, by rw [HT3.out]; rfl⟩)); (case aB => (have := HA.out; have := HD.out.xln; have h6 : T3.length = 6 := (by rw [HT3.out]; rfl); rw [List.length_append]; omega)); (case aN => (have := HSZ.out; simp; omega)); intro v2 w2 ho2 hg2; have HO2 := Aside0.mk ho2; have HG2 := Aside0.mk hg2; clear ho2 hg2)
      go_roundg g0
      case measure => omega
      case rel => exact ⟨i + 3, E ++ T3, by first | rfl | rw [show i + 2 + 1 = i + 3 by omega] | rw [e3] | rw [e2, e3], ⟨by have := HA.out; omega, by have := HA.out; omega, by have := HA.out; have h6 : T3.length = 6 := (by rw [HT3.out]; rfl); rw [List.length_append]; omega, by have := HA.out; omega⟩, ⟨by rw [List.append_assoc, ← HEW.out]; exact HE.out⟩, ⟨by rw [← List.append_assoc]; exact HO2.out⟩, ⟨HG.out.trans (((Grew.refl wr u0).alloc _).trans HG2.out)⟩⟩
    ·rw [if_neg (fun h => c5 h.2), rdL a1 hil] at hew
     have HEW := Aside0.mk hew
     have HNL := Aside0.mk (fun h => c5 ((lineL (l := l) a1).2 h))
     clear a2 a3 a4 hew c4 c5
     by_cases d1 : rd l i = 226
     ·have z1 : (rd l i == 226) = true := beq_iff_eq.mpr d1
      by_cases d2 : i + 2 < (l.length : Int)
      ·have b2 : decide (i + 2 < (l.length : Int)) = true := decide_eq_true d2
       obtain ⟨_, hA, hx1⟩ := Kd.at_int (HC.out _ _ HG.out) (i + 1) (by omega) (by omega)
       cases hA
       by_cases d3 : rd l (i + 1) = 128
       ·have z3 : (rd l (i + 1) == 128) = true := beq_iff_eq.mpr d3
        obtain ⟨_, hA, hx2⟩ := Kd.at_int (HC.out _ _ HG.out) (i + 2) (by omega) (by omega)
        cases hA
        have hb2 := HBY.out (i + 2) (by omega) (by omega)
        have z4 : (Go.bits .andNot .u8 (rd l (i + 2)) 1 == 168) = false := not_line _ hb2.1 hb2.2 (fun h => HNL.out ⟨d2, d1, d3, h⟩)
        clear hb2 d1 d3
        go_wp2_with ((with_reducible refine gate_builtin (b := .append) (xs := #[.tmp 17, .tmp 19]) rfl ?_); at_builtin; refine wpList_app rfl (.tmp 17) (.tmp 19) 22 rfl u0 _ (xs ++ E) [rd l i] rfl rfl (HO.out.move (below_alloc (Below.refl _ _) _)) ?aS ?aB ?aN ?_; (case aS => (refine src_new (b := wr.heap.size) ?_ rfl; exact ⟨_, blk_new wr _, rfl⟩)); (case aB => (have := HA.out; have := HD.out.xln; rw [List.length_append]; simp only [List.length_cons, List.length_nil]; omega)); (case aN => (have := HSZ.out; simp; omega)); intro v2 w2 ho2 hg2; have HO2 := Aside0.mk ho2; have HG2 := Aside0.mk hg2; clear ho2 hg2)
        go_roundg g0
        case measure => omega
        case rel => exact ⟨i + 1, E ++ [rd l i], by first | rfl | rw [e1], ⟨by have := HA.out; omega, by have := HA.out; omega, by have := HA.out; rw [List.length_append, List.length_singleton]; omega, by have := HA.out; omega⟩, ⟨by rw [List.append_assoc, List.singleton_append, ← HEW.out]; exact HE.out⟩, ⟨by rw [← List.append_assoc]; exact HO2.out⟩, ⟨HG.out.trans (((Grew.refl wr u0).alloc _).trans HG2.out)⟩⟩
       ·have z3 : (rd l (i + 1) == 128) = false := beq_eq_false_iff_ne.mpr d3
        clear d1 d3
        go_wp2_with ((with_reducible refine gate_builtin (b := .append) (xs := #[.tmp 17, .tmp 19]) rfl ?_); at_builtin; refine wpList_app rfl (.tmp 17) (.tmp 19) 22 rfl u0 _ (xs ++ E) [rd l i] rfl rfl (HO.out.move (below_alloc (Below.refl _ _) _)) ?aS ?aB ?aN ?_; (case aS => (refine src_new (b := wr.heap.size) ?_ rfl; exact ⟨_, blk_new wr _, rfl⟩)); (case aB => (have := HA.out; have := HD.out.xln; rw [List.length_append]; simp only [List.length_cons, List.length_nil]; omega)); (case aN => (have := HSZ.out; simp; omega)); intro v2 w2 ho2 hg2; have HO2 := Aside0.mk ho2; have HG2 := Aside0.mk hg2; clear ho2 hg2)
        go_roundg g0
        case measure => omega
        case rel => exact ⟨i + 1, E ++ [rd l i], by first | rfl | rw [e1], ⟨by have := HA.out; omega, by have := HA.out; omega, by have := HA.out; rw [List.length_append, List.length_singleton]; omega, by have := HA.out; omega⟩, ⟨by rw [List.append_assoc, List.singleton_append, ← HEW.out]; exact HE.out⟩, ⟨by rw [← List.append_assoc]; exact HO2.out⟩, ⟨HG.out.trans (((Grew.refl wr u0).alloc _).trans HG2.out)⟩⟩
      ·have b2 : decide (i + 2 < (l.length : Int)) = false := decide_eq_false d2
       clear d1 d2
       go_wp2_with ((with_reducible refine gate_builtin (b := .append) (xs := #[.tmp 17, .tmp 19]) rfl ?_); at_builtin; refine wpList_app rfl (.tmp 17) (.tmp 19) 22 rfl u0 _ (xs ++ E) [rd l i] rfl rfl (HO.out.move (below_alloc (Below.refl _ _) _)) ?aS ?aB ?aN ?_; (case aS => (refine src_new (b := wr.heap.size) ?_ rfl; exact ⟨_, blk_new wr _, rfl⟩)); (case aB => (have := HA.out; have := HD.out.xln; rw [List.length_append]; simp only [List.length_cons, List.length_nil]; omega)); (case aN => (have := HSZ.out; simp; omega)); intro v2 w2 ho2 hg2; have HO2 := Aside0.mk ho2; have HG2 := Aside0.mk hg2; clear ho2 hg2)
       go_roundg g0
       case measure => omega
       case rel => exact ⟨i + 1, E ++ [rd l i], by first | rfl | rw [e1], ⟨by have := HA.out; omega, by have := HA.out; omega, by have := HA.out; rw [List.length_append, List.length_singleton]; omega, by have := HA.out; omega⟩, ⟨by rw [List.append_assoc, List.singleton_append, ← HEW.out]; exact HE.out⟩, ⟨by rw [← List.append_assoc]; exact HO2.out⟩, ⟨HG.out.trans (((Grew.refl wr u0).alloc _).trans HG2.out)⟩⟩
     ·have z1 : (rd l i == 226) = false := beq_eq_false_iff_ne.mpr d1
      clear d1
      go_wp2_with ((with_reducible refine gate_builtin (b := .append) (xs := #[.tmp 17, .tmp 19]) rfl ?_); at_builtin; refine wpList_app rfl (.tmp 17) (.tmp 19) 22 rfl u0 _ (xs ++ E) [rd l i] rfl rfl (HO.out.move (below_alloc (Below.refl _ _) _)) ?aS ?aB ?aN ?_; (case aS => (refine src_new (b := wr.heap.size) ?_ rfl; exact ⟨_, blk_new wr _, rfl⟩)); (case aB => (have := HA.out; have := HD.out.xln; rw [List.length_append]; simp only [List.length_cons, List.length_nil]; omega)); (case aN => (have := HSZ.out; simp; omega)); intro v2 w2 ho2 hg2; have HO2 := Aside0.mk ho2; have HG2 := Aside0.mk hg2; clear ho2 hg2)
      go_roundg g0
      case measure => omega
      case rel => exact ⟨i + 1, E ++ [rd l i], by first | rfl | rw [e1], ⟨by have := HA.out; omega, by have := HA.out; omega, by have := HA.out; rw [List.length_append, List.length_singleton]; omega, by have := HA.out; omega⟩, ⟨by rw [List.append_assoc, List.singleton_append, ← HEW.out]; exact HE.out⟩, ⟨by rw [← List.append_assoc]; exact HO2.out⟩, ⟨HG.out.trans (((Grew.refl wr u0).alloc _).trans HG2.out)⟩⟩
  ·have b1 : decide (i < (l.length : Int)) = false := decide_eq_false hil
   rw [if_neg hil] at hew
   have HEQ : Aside0 (R = E) := ⟨by have := HE.out; rw [hew, List.append_nil] at this; exact this⟩
   obtain ⟨B, n, k, hu⟩ := own_is HO.out
   subst hu
   clear hew
   go_wp2_with fail
   go_ret
   rw [HEQ.out]
   exact ⟨_, rfl, HO.out, HG.out⟩
end
end Go.Proofs.YtbikiibpjdiaaaaDoor.Err
/- appendCompactOutput: what is compact already is copied; appendCompact: either way. -/
namespace Go.Proofs.YtbikiibpjdiaaaaDoor.Err
open Go.RowKit Go.Proofs.YtbikiibpjdiaaaaDoorW.PrintWords Go.Proofs.YtbikiibpjdiaaaaDoorW.PrintLast Go.Proofs.YtbikiibpjdiaaaaDoorW.PrintMore Go.Proofs.YtbikiibpjdiaaaaDoor.Dig Go.Proofs.YtbikiibpjdiaaaaDoor.Tab Go.Proofs.YtbikiibpjdiaaaaDoor.QF
set_option linter.unusedVariables false
/-- What is written of compact JSON. -/
abbrev ewl (l : List Int) (esc : Bool) : List Int := ew (l ++ [0]) esc l.length (l ++ [0]).length 0
/-- What appendCompactOutput answers: nothing is appended; or all, and it is one value, of which nothing is left out. -/
def OutAns (q : ByteArray → ByteArray) (N : Nat) (w : World) (v : Value) (xs l : List Int) (esc : Bool) (e : Ending) (w' : World) : Prop :=
 (e = .returned (.tuple #[v, .bool false]) ∧ Below w.heap.size w w') ∨
 ∃ v', e = .returned (.tuple #[v', .bool true]) ∧ Own N w' v' (xs ++ ewl l esc) ∧ Grew w v w' v' ∧ Good q (l ++ [0])
section
variable {q : ByteArray → ByteArray} {N : Nat} {w w' : World} {v u : Value} {A : Option Addr} {ad : Addr} {c : Nat} {xs l L : List Int} {esc : Bool} {x e : Int}
theorem ew_id (he : e ≤ L.length) (h : ∀ k : Int, 0 ≤ k → k < e → esc = true → ¬ sign (rd L k) ∧ rd L k ≠ 226) : ∀ (n : Nat) (x : Int), 0 ≤ x → x ≤ e → e - x = n → ew L esc e L.length x = seg L x e := by
 intro n
 induction n with
 | zero => intro x h0 h1 h2; rw [ew_at he h0, if_neg (by omega), show x = e by omega, seg_nil]
 | succ n ih =>
  intro x h0 h1 h2
  have hx := h x h0 (by omega)
  rw [ew_at he h0, if_pos (by omega), if_neg (fun a => (hx a.1).1 a.2), if_neg (fun a => (hx a.1).2 a.2.1), seg_cons x _ h0 (by omega) (by omega), ih (x + 1) (by omega) (by omega) (by omega)]
theorem seg_all : seg (l ++ [0]) 0 l.length = l := by
 have h := seg_drop0 (l := l) (x := 0) (by omega) l.length (by omega)
 rw [show (0 : Int) + (l.length : Nat) = (l.length : Nat) by omega] at h
 rw [← h]
 simp
theorem ewl_id (h : esc = true → ∀ y ∈ l, ¬ sign y ∧ y ≠ 226) : ewl l esc = l := by
 unfold ewl
 rw [ew_id (by rw [List.length_append]; simp; omega) (fun k a b e => by rw [rdL a (by omega)]; exact h e _ (rd_mem a (by omega))) l.length 0 (by omega) (by omega) (by omega), seg_all]
theorem good_ff (h : Good q (l ++ [0])) : ff q l .val [] 0 = none := by
 have hlen : ((l ++ [(0 : Int)]).length : Int) = l.length + 1 := by rw [List.length_append]; rfl
 have ho := h.1
 rcases out_ff (q := q) l (l.length - 0) 0 .val [] rfl (Nat.zero_le _) rfl with ⟨d, h1, _, h3, h4⟩ | ⟨s, k, e, m, h1, _⟩
 ·rw [show ((0 : Nat) : Int) = 0 from rfl, ho] at h1
  simp only [Out.done.injEq] at h1
  have hd : d = l.length := by omega
  rw [hd, List.drop_length, List.drop_zero] at h4
  exact h4
 ·rw [show ((0 : Nat) : Int) = 0 from rfl, ho] at h1
  cases h1
theorem good_cw (h : Good q (l ++ [0])) : cw q (l ++ [0]) esc (l ++ [0]).length 0 = ewl l esc := by
 have hlen : ((l ++ [(0 : Int)]).length : Int) = l.length + 1 := by rw [List.length_append]; rfl
 rw [h.2 esc, show ((l ++ [(0 : Int)]).length : Int) - 1 = l.length by omega]
theorem good_fj (h : Good q (l ++ [0])) (hby : ∀ y, y ∈ l → 0 ≤ y ∧ y < 256) (hl : l.length ≤ 10000) : (fj (l ++ [0]) esc none).map (·.2) = some (ewl l esc) := by
 cases hf : fj (l ++ [0]) esc none with
 | none => exact absurd (good_ff h) ((fj_ff (q := q) hby hl).1 hf)
 | some p => rw [← good_cw h, fj_cw (q := q) (txt_of hby (by omega)) (e := p.1) (T := p.2) hf]; rfl
set_option maxRecDepth 100000 in
set_option maxHeartbeats 16000000 in
theorem appendOutput (h : Dr N w v xs A c l) (hne : ∀ a : Addr, A = some a → some a.block ≠ v.ownBlock) :
  Calls Tryd.prog 47 #[v, .slice A l.length c, .bool esc, .bool false] w (OutAns q N w v xs l esc) := by
 have hsm := h.len
 have HD := Aside0.mk h
 have HNE := Aside0.mk hne
 by_cases hz : l.length = 0
 ·have hz1 : ((l.length : Int) == 0) = true := beq_iff_eq.mpr (by omega)
  clear h hne hz
  go_enter Tryd.func47, Tryd.ntmps47
  go_wp2_with fail
  refine bodyPost_ret (v := .tuple #[v, .bool false]) ?_ rfl ?_
  ·simp [results, Tryd.results47, go_sem]
  exact .inl ⟨rfl, Below.refl _ _⟩
 have hz1 : ((l.length : Int) == 0) = false := beq_eq_false_iff_ne.mpr (by omega)
 obtain ⟨o, ho⟩ : ∃ o : Int, o = if esc = true then 1 else 0 := ⟨_, rfl⟩
 have HO := Aside0.mk ho
 obtain ⟨r1, hr1, hp1⟩ := looked h.src h.cap h.len o
 have HL := Aside0.mk hr1
 have HP1 := Aside0.mk hp1
 have HI : Aside0 (∀ (W : World) (p : Bool), Below w.heap.size w W → (∀ y ∈ l, 32 ≤ y) → (p = true → ∀ y ∈ l, y ≠ 92) → Calls Tryd.prog 42 #[.slice A l.length c, .bool p] W (IcAns q l W)) :=
  ⟨fun W p hb h32 h92 => isCompact (Kd.C_below h.src hb) h.cap (h.tab.below hb) ⟨fun y hy => ⟨h32 y hy, (h.byt y hy).2⟩, h.len⟩ h92⟩
 clear h hne hz ho hr1 hp1
 go_enter Tryd.func47, Tryd.ntmps47
 go_upto_if 15 with (fail)
 go_cut [10] from 16 to 45 (fun v10 wx => v10 = .int .i64 o ∧ wx = w)
 case first =>
  obtain _ | _ := esc
  ·have ho : o = 0 := HO.out
   subst ho
   go_wp2_with fail
   go_meet
   case rel => exact ⟨rfl, rfl⟩
  ·have ho : o = 1 := HO.out
   subst ho
   go_wp2_with fail
   go_meet
   case rel => exact ⟨rfl, rfl⟩
 case rest =>
  obtain ⟨rfl, rfl⟩ := hcut
  go_wp2_with fail
  with_reducible refine HL.out.mono ?_
  rintro e w1 ⟨rfl, hd1⟩
  have HB1 := Aside0.mk hd1.below
  clear hd1
  obtain _ | _ := r1
  ·have hst := HP1.out rfl
   have HC := Aside0.mk (HI.out w1 true HB1.out (fun y hy => (hst y hy).1) (fun _ y hy => (hst y hy).2.1))
   have HID : Aside0 (ewl l esc = l) := ⟨ewl_id (fun e y hy => by
    have := (hst y hy).2.2 (by rw [HO.out, if_pos e])
    unfold sign
    omega)⟩
   clear hst
   go_wp2_with fail
   with_reducible refine HC.out.mono ?_
   rintro e w2 ⟨⟨r2, rfl, hr2, _⟩, hb2⟩
   have HB2 := Aside0.mk (below_step HB1.out hb2)
   have HR2 := Aside0.mk hr2
   clear hr2 hb2
   obtain _ | _ := r2
   ·go_wp2_with fail
    refine bodyPost_ret (v := .tuple #[v, .bool false]) ?_ rfl ?_
    ·simp [results, Tryd.results47, go_sem]
    exact .inl ⟨rfl, HB2.out⟩
   ·have HGD := Aside0.mk (HR2.out rfl)
    go_wp2_with ((with_reducible refine gate_builtin (b := .append) (xs := #[.tmp 28, .tmp 29]) rfl ?_); at_builtin; refine wpList_app (N := N) rfl (.tmp 28) (.tmp 29) 22 rfl v _ xs l rfl rfl (HD.out.own.move HB2.out) ?aS ?aB ?aN ?_; (case aS => exact src_C (Kd.C_below HD.out.src HB2.out)); (case aB => have := HD.out.len; have := HD.out.xln; omega); (case aN => exact Nat.le_trans HD.out.size HB2.out.size); intro v3 w3 ho3 hg3; have HO3 := Aside0.mk ho3; have HG3 := Aside0.mk hg3; clear ho3 hg3)
    refine bodyPost_ret (v := .tuple #[v3, .bool true]) ?_ rfl ?_
    ·simp [results, Tryd.results47, go_sem]
    exact .inr ⟨v3, rfl, by rw [HID.out]; exact HO3.out, (Grew.below HB2.out).trans HG3.out, HGD.out⟩
  ·obtain ⟨r3, hr3, hp3⟩ := control (Kd.C_below HD.out.src HB1.out) HD.out.cap HD.out.len
   have HC3 := Aside0.mk hr3
   have HP3 := Aside0.mk hp3
   clear hr3 hp3
   go_wp2_with fail
   with_reducible refine HC3.out.mono ?_
   rintro e w2 ⟨rfl, hd2⟩
   have HB2 := Aside0.mk (below_step HB1.out hd2.below)
   clear hd2
   obtain _ | _ := r3
   ·have HC := Aside0.mk (HI.out w2 false HB2.out (HP3.out rfl) (fun h => by cases h))
    go_wp2_with fail
    with_reducible refine HC.out.mono ?_
    rintro e w3 ⟨⟨r4, rfl, hr4, _⟩, hb3⟩
    have HB3 := Aside0.mk (below_step HB2.out hb3)
    have HR4 := Aside0.mk hr4
    clear hr4 hb3
    obtain _ | _ := r4
    ·go_wp2_with fail
     refine bodyPost_ret (v := .tuple #[v, .bool false]) ?_ rfl ?_
     ·simp [results, Tryd.results47, go_sem]
     exact .inl ⟨rfl, HB3.out⟩
    ·have HGD := Aside0.mk (HR4.out rfl)
     obtain _ | _ := esc
     ·have HID : Aside0 (ewl l false = l) := ⟨ewl_id (fun e => by cases e)⟩
      go_wp2_with ((with_reducible refine gate_builtin (b := .append) (xs := #[.tmp 43, .tmp 44]) rfl ?_); at_builtin; refine wpList_app (N := N) rfl (.tmp 43) (.tmp 44) 22 rfl v _ xs l rfl rfl (HD.out.own.move HB3.out) ?aS ?aB ?aN ?_; (case aS => exact src_C (Kd.C_below HD.out.src HB3.out)); (case aB => have := HD.out.len; have := HD.out.xln; omega); (case aN => exact Nat.le_trans HD.out.size HB3.out.size); intro v4 w4 ho4 hg4; have HO4 := Aside0.mk ho4; have HG4 := Aside0.mk hg4; clear ho4 hg4)
      refine bodyPost_ret (v := .tuple #[v4, .bool true]) ?_ rfl ?_
      ·simp [results, Tryd.results47, go_sem]
      exact .inr ⟨v4, rfl, by rw [HID.out]; exact HO4.out, (Grew.below HB3.out).trans HG4.out, HGD.out⟩
     ·have HH := Aside0.mk (htmlEscaped (HD.out.below HB3.out) HNE.out)
      go_wp2_with fail
      with_reducible refine HH.out.mono ?_
      rintro e w4 ⟨v4, rfl, ho4, hg4⟩
      have HO4 := Aside0.mk ho4
      have HG4 := Aside0.mk ((Grew.below HB3.out).trans hg4)
      clear ho4 hg4
      go_wp2_with fail
      refine bodyPost_ret (v := .tuple #[v4, .bool true]) ?_ rfl ?_
      ·simp [results, Tryd.results47, go_sem]
      exact .inr ⟨v4, rfl, HO4.out, HG4.out, HGD.out⟩
   ·go_wp2_with fail
    refine bodyPost_ret (v := .tuple #[v, .bool false]) ?_ rfl ?_
    ·simp [results, Tryd.results47, go_sem]
    exact .inl ⟨rfl, HB2.out⟩
set_option maxRecDepth 100000 in
set_option maxHeartbeats 16000000 in
theorem appendCompactG (h : Dr N w v xs A c l) (hne : ∀ a : Addr, A = some a → some a.block ≠ v.ownBlock) (hgf : Good (fun s => s) (l ++ [0]) → (fj (l ++ [0]) esc none).map (·.2) = some (ewl l esc)) :
  Calls Tryd.prog 38 #[v, .slice A l.length c, .bool esc] w (DoorAns N w v xs ((fj (l ++ [0]) esc none).map (·.2))) := by
 have HO := Aside0.mk (appendOutput (q := fun s => s) (esc := esc) h hne)
 have HGF : Aside0 (Good (fun s => s) (l ++ [0]) → (fj (l ++ [0]) esc none).map (·.2) = some (ewl l esc)) := ⟨hgf⟩
 obtain ⟨r, hr⟩ : ∃ r, r = (fj (l ++ [0]) esc none).map (·.2) := ⟨_, rfl⟩
 have HA : Aside0 (∀ W, Below w.heap.size w W → Calls Tryd.prog 48 #[v, .slice A l.length c, .bool esc] W (DoorAns N W v xs r)) := ⟨fun W hb => by rw [hr]; exact appendCompacted (esc := esc) (h.below hb)⟩
 rw [← hr] at HGF ⊢
 clear h hne hr hgf
 go_enter Tryd.func38, Tryd.ntmps38
 go_wp2_with fail
 with_reducible refine HO.out.mono ?_
 rintro e w1 (⟨rfl, hb1⟩ | ⟨v1, rfl, ho1, hg1, hgd⟩)
 ·have HB1 := Aside0.mk hb1
  clear hb1
  go_wp2_with fail
  with_reducible refine (HA.out _ HB1.out).mono ?_
  rintro e w2 hans
  obtain ⟨v2, y, rfl, h2⟩ := doorBack hans
  have H2 := Aside0.mk h2
  clear h2 hans
  go_wp2_with fail
  refine bodyPost_ret (v := .tuple #[v2, y]) ?_ rfl ?_
  ·simp [results, Tryd.results38, go_sem]
  have h2 := H2.out
  cases r with
  | none =>
   obtain ⟨v', u, g, h3, hg⟩ := h2
   exact ⟨v', u, g, h3, (Grew.below HB1.out).trans hg⟩
  | some T =>
   obtain ⟨v', h3, h4, hg⟩ := h2
   exact ⟨v', h3, h4, (Grew.below HB1.out).trans hg⟩
 ·have HR := Aside0.mk (HGF.out hgd)
  have HO1 := Aside0.mk ho1
  have HG1 := Aside0.mk hg1
  clear ho1 hg1 hgd
  go_wp2_with fail
  refine bodyPost_ret (v := .tuple #[v1, .nilIface]) ?_ rfl ?_
  ·simp [results, Tryd.results38, go_sem]
  rw [HR.out]
  exact ⟨v1, rfl, HO1.out, HG1.out⟩
theorem appendCompact (h : Dr N w v xs A c l) (hne : ∀ a : Addr, A = some a → some a.block ≠ v.ownBlock) (hl : l.length ≤ 10000) :
  Calls Tryd.prog 38 #[v, .slice A l.length c, .bool esc] w (DoorAns N w v xs ((fj (l ++ [0]) esc none).map (·.2))) := appendCompactG h hne fun hg => good_fj hg h.byt hl
end
end Go.Proofs.YtbikiibpjdiaaaaDoor.Err
/- impl.Compact and impl.CompactOutput, and the laws' own look whether anything is made compact at all. -/
namespace Go.Proofs.YtbikiibpjdiaaaaDoor.Err
open Go.RowKit Go.Proofs.YtbikiibpjdiaaaaDoorW.PrintWords Go.Proofs.YtbikiibpjdiaaaaDoorW.PrintLast Go.Proofs.YtbikiibpjdiaaaaDoorW.PrintMore
open Go.Proofs.YtbikiibpjdiaaaaDoor.Dig Go.Proofs.YtbikiibpjdiaaaaDoor.Tab Go.Proofs.YtbikiibpjdiaaaaDoor.QF Go.Proofs.YtbikiibpjdiaaaaDoor.QM
set_option linter.unusedVariables false
section
variable {q : ByteArray → ByteArray} {w w' : World} {N : Nat} {v : Value} {xs l : List Int} {A A0 A1 : Option Addr} {c c0 c1 : Nat} {esc : Bool} {r : Option (List Int)}
def five5 : List Int := [91, 32, 49, 32, 93]
theorem fj5 : (fj (five5 ++ [0]) false none).map (·.2) = some [91, 49, 93] := by decide +kernel
/-- Two rows of the call's own lie in two blocks. -/
theorem ne_of {w1 w2 : World} {ys : List Int} {n : Nat} (h2 : Own w1.heap.size w2 (.slice A n c) ys) (h1 : Own N w1 v xs) : ∀ a : Addr, A = some a → some a.block ≠ v.ownBlock := fun a ha hv => by
 subst ha
 have b2 := (h2.lt a.block rfl).1
 have b1 := (h1.lt _ hv.symm).2
 omega
set_option maxRecDepth 100000 in
set_option maxHeartbeats 16000000 in
theorem compactDoor (h : Calls Tryd.prog 38 #[v, .slice A l.length c, .bool esc] w (DoorAns N w v xs r)) : Calls Tryd.prog 25 #[v, .slice A l.length c, .bool esc] w (DoorAns N w v xs r) := by
 have HA := Aside0.mk h
 clear h
 go_enter Tryd.func25, Tryd.ntmps25
 go_wp2_with fail
 with_reducible refine HA.out.mono ?_
 rintro e w1 hans
 obtain ⟨v1, y, rfl, h2⟩ := doorBack hans
 have H2 := Aside0.mk h2
 clear h2 hans
 go_wp2_with fail
 refine bodyPost_ret (v := .tuple #[v1, y]) ?_ rfl ?_
 ·simp [results, Tryd.results25, go_sem]
 exact H2.out
set_option maxRecDepth 100000 in
set_option maxHeartbeats 16000000 in
theorem implCompact (h : Ins w A0 c0 xs A1 c1 l) (hdoor : ∀ N W v A c, Dr N W v xs A c l → (∀ a : Addr, A = some a → some a.block ≠ v.ownBlock) → Calls Tryd.prog 38 #[v, .slice A l.length c, .bool esc] W (DoorAns N W v xs r)) : Calls Tryd.prog 11 #[.slice A0 xs.length c0, .slice A1 l.length c1, .bool esc] w (ImplAns w xs r) := by
 have HI := Aside0.mk h
 have HDO := Aside0.mk hdoor
 have HCP := Aside0.mk (ownCopy h.s0 h.k0 h.n0)
 clear h hdoor
 go_enter Tryd.func11, Tryd.ntmps11
 go_wp2_with fail
 with_reducible refine HCP.out.mono ?_
 rintro e w1 ⟨⟨v1, rfl, ho1⟩, hb1⟩
 have HO1 := Aside0.mk ho1
 have HB1 := Aside0.mk hb1
 clear ho1 hb1
 have HCP2 := Aside0.mk (ownCopy (Kd.C_below HI.out.s1 HB1.out) HI.out.k1 HI.out.n1)
 go_wp2_with fail
 with_reducible refine HCP2.out.mono ?_
 rintro e w2 ⟨⟨v2, rfl, ho2⟩, hb2⟩
 obtain ⟨A, c, rfl, hc2, hs2⟩ := own_slice ho2
 have HD := Aside0.mk (dr_of HI.out HO1.out HB1.out hb2 hs2 hc2)
 have HB2 := Aside0.mk hb2
 have HA := Aside0.mk (compactDoor (HDO.out _ _ _ _ _ HD.out (ne_of ho2 HO1.out)))
 clear ho2 hb2 hs2 hc2
 go_wp2_with fail
 with_reducible refine HA.out.mono ?_
 rintro e w3 hans
 rcases r with _ | T
 ·obtain ⟨v3, u3, g, rfl, hg⟩ := hans
  have HBB := Aside0.mk (out_below (HO1.out.move HB2.out) (below_step HB1.out HB2.out) hg)
  clear hg
  go_wp2_with fail
  go_region
  go_wp2_with fail
  refine bodyPost_ret (v := .tuple #[v3, .bool false]) ?_ rfl ?_
  ·simp [results, Tryd.results11, go_sem]
  exact ⟨v3, rfl, HBB.out.drew⟩
 ·obtain ⟨v3, rfl, ho3, hg⟩ := hans
  have HBB := Aside0.mk (out_below (HO1.out.move HB2.out) (below_step HB1.out HB2.out) hg)
  obtain ⟨A3, c3, rfl, hc3, hs3⟩ := own_slice ho3
  have HS3 := Aside0.mk hs3
  have HC3 := Aside0.mk hc3
  clear hg ho3 hs3 hc3
  go_wp2_with fail
  go_region
  go_wp2_with fail
  refine bodyPost_ret (v := .tuple #[.slice A3 (xs ++ T).length c3, .bool true]) ?_ rfl ?_
  ·simp [results, Tryd.results11, go_sem]
  exact ⟨A3, c3, rfl, HC3.out, Kd.C_below HS3.out (Below.refl _ _).drew, HBB.out.drew⟩
theorem nil_C (w : World) : Kd.C (Kd.int .u8) w none ([] : List Int).length [] := Kd.C_of_reads (enc := Value.int .u8) (d := (0 : Int)) (h1 := fun _ => rfl) ⟨rfl, by simp, fun h => by simp at h⟩
theorem nums_C {b : Nat} {vs : Array Value} {ys : List Int} (h : w.heap[b]? = some (.cells vs 5 (0, 0))) (hv : vs.toList = nums .u8 ys) (hl : ys.length ≤ 70000000) : Kd.C (Kd.int .u8) w (some ⟨b, 0, none⟩) ys.length ys := by
 refine Kd.C_of_reads (enc := Value.int .u8) (d := (0 : Int)) (h1 := fun _ => rfl) ⟨rfl, by omega, fun _ => ⟨_, rfl, fun j hj => ?_⟩⟩
 have hn := World.news_of_block h j (.int .u8 (ys.getD j 0)) (by rw [hv]; unfold nums; rw [List.getElem?_map, List.getElem?_eq_getElem hj, List.getD_eq_getElem?_getD, List.getElem?_eq_getElem hj]; rfl)
 exact hn
theorem const_C {vs : Array Value} {ys : List Int} {fr : Nat × Nat} (hv : vs.toList = nums .u8 ys) (hl : ys.length ≤ 70000000) : Kd.C (Kd.int .u8) (w.alloc (.cells vs 5 fr)) (some ⟨w.heap.size, 0, none⟩) ys.length ys := by
 refine Kd.C_of_reads (enc := Value.int .u8) (d := (0 : Int)) (h1 := fun _ => rfl) ⟨rfl, by omega, fun _ => ⟨_, rfl, fun j hj => ?_⟩⟩
 exact World.news_of_block (blk_new w (.cells vs 5 fr)) j (.int .u8 (ys.getD j 0)) (by rw [hv]; unfold nums; rw [List.getElem?_map, List.getElem?_eq_getElem hj, List.getD_eq_getElem?_getD, List.getElem?_eq_getElem hj]; rfl)
set_option maxRecDepth 100000 in
set_option maxHeartbeats 16000000 in
theorem compacts (w : World) (hG : Glob w) : Calls Tryd.prog 13 #[] w fun e w' => e = .returned (.bool true) ∧ Below w.heap.size w w' := by
 have hcv : ∀ W : World, Sem.run Tryd.prog (convert 22 22 (.slice (some ⟨W.heap.size, 0, none⟩) 5 5)) (W.alloc (.cells #[.int .u8 91, .int .u8 32, .int .u8 49, .int .u8 32, .int .u8 93] 5)) = .ok (.slice (some ⟨W.heap.size, 0, none⟩) 5 5) (W.alloc (.cells #[.int .u8 91, .int .u8 32, .int .u8 49, .int .u8 32, .int .u8 93] 5 (5, 6))) := fun W => _root_.Go.Joins.run_convert_bytes_const_at (P := Tryd.prog) W 22 5 #[.int .u8 91, .int .u8 32, .int .u8 49, .int .u8 32, .int .u8 93] 5 5 W.heap.size rfl Tryd.underlying22 Tryd.underlying5
 have hcv3 : ∀ W : World, Sem.run Tryd.prog (convert 22 22 (.slice (some ⟨W.heap.size, 0, none⟩) 3 3)) (W.alloc (.cells #[.int .u8 91, .int .u8 49, .int .u8 93] 5)) = .ok (.slice (some ⟨W.heap.size, 0, none⟩) 3 3) (W.alloc (.cells #[.int .u8 91, .int .u8 49, .int .u8 93] 5 (3, 4))) := fun W => _root_.Go.Joins.run_convert_bytes_const_at (P := Tryd.prog) W 22 5 #[.int .u8 91, .int .u8 49, .int .u8 93] 3 3 W.heap.size rfl Tryd.underlying22 Tryd.underlying5
 have HI : Aside0 (Calls Tryd.prog 11 #[.slice none 0 0, .slice (some ⟨w.heap.size, 0, none⟩) 5 5, .bool false] (w.alloc (.cells #[.int .u8 91, .int .u8 32, .int .u8 49, .int .u8 32, .int .u8 93] 5 (5, 6))) (ImplAns (w.alloc (.cells #[.int .u8 91, .int .u8 32, .int .u8 49, .int .u8 32, .int .u8 93] 5 (5, 6))) [] (some [91, 49, 93]))) :=
  ⟨implCompact (xs := []) (l := five5) ⟨nil_C _, Nat.le_refl _, by decide, const_C rfl (by decide), by decide, by decide, by decide, hG.below (below_alloc (Below.refl _ _) _)⟩ fun N W v A c h hne => by have := appendCompact (esc := false) h hne (by decide); rw [fj5] at this; exact this⟩
 have HS : Aside0 (∀ W A k, 3 ≤ k → Kd.C (Kd.int .u8) W A 3 [91, 49, 93] → Calls Tryd.prog 16 #[.slice A 3 k, .slice (some ⟨W.heap.size, 0, none⟩) 3 3] (W.alloc (.cells #[.int .u8 91, .int .u8 49, .int .u8 93] 5 (3, 4))) fun e w' => e = .returned (.bool true) ∧ Drawn0 (W.alloc (.cells #[.int .u8 91, .int .u8 49, .int .u8 93] 5 (3, 4))) w') :=
  ⟨fun W A k hk h => spec_Same.calls A k [91, 49, 93] (some ⟨W.heap.size, 0, none⟩) 3 [91, 49, 93] true _ (Kd.C_below h (below_alloc (Below.refl _ _) _)) hk (const_C rfl (by decide)) (Nat.le_refl _) (by decide +kernel)⟩
 clear hG
 go_enter Tryd.func13, Tryd.ntmps13
 go_wp2_with fail
 with_reducible refine HI.out.mono ?_
 rintro e w1 ⟨A, k, rfl, hk, hC, hb⟩
 have HB := Aside0.mk (below_step (below_alloc (Below.refl _ w) _) hb)
 have HC : Aside0 (3 ≤ k ∧ Kd.C (Kd.int .u8) w1 A 3 [91, 49, 93]) := ⟨hk, hC⟩
 clear hb hC hk
 go_wp2_with fail
 with_reducible refine (HS.out w1 A k HC.out.1 HC.out.2).mono ?_
 rintro e w2 ⟨rfl, hd2⟩
 have HB2 := Aside0.mk (below_step (below_alloc HB.out _) hd2.below)
 clear hd2
 go_wp2_with fail
 go_ret
 exact ⟨rfl, HB2.out⟩
/-- What impl.CompactOutput answers. -/
def ImplOut (q : ByteArray → ByteArray) (w : World) (xs l : List Int) (esc : Bool) (e : Ending) (w' : World) : Prop :=
 (∃ A k, e = .returned (.tuple #[.slice A xs.length k, .bool false]) ∧ xs.length ≤ k ∧ Kd.C (Kd.int .u8) w' A xs.length xs ∧ Below w.heap.size w w') ∨
 ∃ A k, e = .returned (.tuple #[.slice A (xs ++ ewl l esc).length k, .bool true]) ∧ (xs ++ ewl l esc).length ≤ k ∧ Kd.C (Kd.int .u8) w' A (xs ++ ewl l esc).length (xs ++ ewl l esc) ∧ Good q (l ++ [0]) ∧ Below w.heap.size w w'
theorem outBack {e : Ending} (h : OutAns q N w v xs l esc e w') : ∃ v' b, e = .returned (.tuple #[v', .bool b]) ∧ OutAns q N w v xs l esc (.returned (.tuple #[v', .bool b])) w' := by
 rcases h with ⟨rfl, h⟩ | ⟨v', rfl, h⟩
 ·exact ⟨v, false, rfl, .inl ⟨rfl, h⟩⟩
 ·exact ⟨v', true, rfl, .inr ⟨v', rfl, h⟩⟩
set_option maxRecDepth 100000 in
set_option maxHeartbeats 16000000 in
theorem outputDoor (h : Dr N w v xs A c l) (hne : ∀ a : Addr, A = some a → some a.block ≠ v.ownBlock) : Calls Tryd.prog 34 #[v, .slice A l.length c, .bool esc, .bool false] w (OutAns q N w v xs l esc) := by
 have HA := Aside0.mk (appendOutput (q := q) (esc := esc) h hne)
 clear h hne
 go_enter Tryd.func34, Tryd.ntmps34
 go_wp2_with fail
 with_reducible refine HA.out.mono ?_
 rintro e w1 hans
 obtain ⟨v1, b, rfl, h2⟩ := outBack hans
 have H2 := Aside0.mk h2
 clear h2 hans
 go_wp2_with fail
 refine bodyPost_ret (v := .tuple #[v1, .bool b]) ?_ rfl ?_
 ·simp [results, Tryd.results34, go_sem]
 exact H2.out
set_option maxRecDepth 100000 in
set_option maxHeartbeats 16000000 in
theorem implOutput (h : Ins w A0 c0 xs A1 c1 l) : Calls Tryd.prog 20 #[.slice A0 xs.length c0, .slice A1 l.length c1, .bool esc, .bool false] w (ImplOut q w xs l esc) := by
 have HI := Aside0.mk h
 have HCP := Aside0.mk (ownCopy h.s0 h.k0 h.n0)
 clear h
 go_enter Tryd.func20, Tryd.ntmps20
 go_wp2_with fail
 with_reducible refine HCP.out.mono ?_
 rintro e w1 ⟨⟨v1, rfl, ho1⟩, hb1⟩
 have HO1 := Aside0.mk ho1
 have HB1 := Aside0.mk hb1
 clear ho1 hb1
 have HCP2 := Aside0.mk (ownCopy (Kd.C_below HI.out.s1 HB1.out) HI.out.k1 HI.out.n1)
 go_wp2_with fail
 with_reducible refine HCP2.out.mono ?_
 rintro e w2 ⟨⟨v2, rfl, ho2⟩, hb2⟩
 obtain ⟨A, c, rfl, hc2, hs2⟩ := own_slice ho2
 have HD := Aside0.mk (dr_of HI.out HO1.out HB1.out hb2 hs2 hc2)
 have HB2 := Aside0.mk hb2
 have HA := Aside0.mk (outputDoor (q := q) (esc := esc) HD.out (ne_of ho2 HO1.out))
 clear ho2 hb2 hs2 hc2
 go_wp2_with fail
 with_reducible refine HA.out.mono ?_
 rintro e w3 (⟨rfl, hb3⟩ | ⟨v3, rfl, ho3, hg3, hgd⟩)
 ·have HBB := Aside0.mk (below_step (below_step HB1.out HB2.out) hb3)
  obtain ⟨A3, c3, rfl, hc3, hs3⟩ := own_slice ((HO1.out.move HB2.out).move hb3)
  have HS3 := Aside0.mk (And.intro hc3 hs3)
  clear hb3 hc3 hs3
  go_wp2_with fail
  refine bodyPost_ret (v := .tuple #[.slice A3 xs.length c3, .bool false]) ?_ rfl ?_
  ·simp [results, Tryd.results20, go_sem]
  exact .inl ⟨A3, c3, rfl, HS3.out.1, HS3.out.2, HBB.out⟩
 ·have HBB := Aside0.mk (out_below (HO1.out.move HB2.out) (below_step HB1.out HB2.out) hg3)
  obtain ⟨A3, c3, rfl, hc3, hs3⟩ := own_slice ho3
  have HS3 := Aside0.mk (And.intro hc3 hs3)
  have HGD := Aside0.mk hgd
  clear hg3 ho3 hs3 hc3 hgd
  go_wp2_with fail
  refine bodyPost_ret (v := .tuple #[.slice A3 (xs ++ ewl l esc).length c3, .bool true]) ?_ rfl ?_
  ·simp [results, Tryd.results20, go_sem]
  exact .inr ⟨A3, c3, rfl, HS3.out.1, HS3.out.2, HGD.out, HBB.out⟩
end
end Go.Proofs.YtbikiibpjdiaaaaDoor.Err
/- The laws' small functions: few, Behind. -/
namespace Go.Proofs.YtbikiibpjdiaaaaDoor.Err
open Go.RowKit Go.Proofs.YtbikiibpjdiaaaaDoorW.PrintWords Go.Proofs.YtbikiibpjdiaaaaDoorW.PrintLast Go.Proofs.YtbikiibpjdiaaaaDoorW.PrintMore
open Go.Proofs.YtbikiibpjdiaaaaDoor.Dig Go.Proofs.YtbikiibpjdiaaaaDoor.Tab Go.Proofs.YtbikiibpjdiaaaaDoor.QF Go.Proofs.YtbikiibpjdiaaaaDoor.QM
set_option linter.unusedVariables false
section
variable {w w' : World} {A0 A1 A3 B : Option Addr} {n0 n1 c0 c1 c3 k g : Nat} {xs T : List Int}
set_option maxRecDepth 100000 in
set_option maxHeartbeats 16000000 in
theorem few2 (hb : w.heap[g]? = some (.cells #[.slice A0 n0 c0, .slice A1 n1 c1] 22 (0, 0))) (h0 : n0 ≤ 2147483647) (h1 : n1 ≤ 2147483647) : Calls Tryd.prog 10 #[.slice (some ⟨g, 0, none⟩) 2 2] w fun e w' => e = .returned (.bool (decide (n0 + n1 ≤ 10000))) ∧ Drawn0 w w' := by
 have x0 : w.cell? ⟨g, 0, none⟩ = some (.slice A0 n0 c0) := by rw [cell_of_row w g 0 _ _ _ hb]; rfl
 have x1 : w.cell? ⟨g, 1, none⟩ = some (.slice A1 n1 c1) := by rw [cell_of_row w g 1 _ _ _ hb]; rfl
 have e0 : wrap64 (0 + (n0 : Int)) = (n0 : Int) := by unfold wrap64; omega
 have e1 : wrap64 ((n0 : Int) + (n1 : Int)) = ((n0 + n1 : Nat) : Int) := by unfold wrap64; omega
 obtain ⟨S, hS⟩ : ∃ S : Int, S = ((n0 + n1 : Nat) : Int) := ⟨_, rfl⟩
 rw [← hS] at e1
 have hD : decide (S ≤ 10000) = decide (n0 + n1 ≤ 10000) := by rw [decide_eq_decide]; omega
 have HSS := Aside0.mk hS
 clear hb hS
 go_enter Tryd.func10, Tryd.ntmps10
 go_wp2_with fail
 go_loopg [3, 8] 4 (fun kq v3 v8 w' => ((v3 = .int .i64 0 ∧ v8 = .int .i64 0 ∧ Aside0 (4 ≤ kq)) ∨ (v3 = .int .i64 (n0 : Int) ∧ v8 = .int .i64 1 ∧ Aside0 (3 ≤ kq)) ∨ (v3 = .int .i64 S ∧ v8 = .int .i64 2 ∧ Aside0 (2 ≤ kq))) ∧ Drawn0 w w')
 case atStart => exact ⟨.inl ⟨rfl, rfl, ⟨Nat.le_refl _⟩⟩, Drawn0.refl _⟩
 case round =>
  obtain ⟨⟨rfl, rfl, HA⟩ | ⟨rfl, rfl, HA⟩ | ⟨rfl, rfl, HA⟩, ⟨m1, rfl⟩⟩ := hrel
  ·have a1 := HA.out
   obtain _ | g0 := gk
   ·exfalso; omega
   go_wp2_with fail
   go_roundg g0
   case measure => omega
   case rel => exact ⟨.inr (.inl ⟨by first | rfl | rw [e0] | simp [e0], rfl, ⟨by omega⟩⟩), ⟨m1, rfl⟩⟩
  ·have a1 := HA.out
   obtain _ | g0 := gk
   ·exfalso; omega
   go_wp2_with fail
   go_roundg g0
   case measure => omega
   case rel => exact ⟨.inr (.inr ⟨by first | rfl | rw [e1] | (congr 1; have := HSS.out; omega), rfl, ⟨by omega⟩⟩), ⟨m1, rfl⟩⟩
  ·have a1 := HA.out
   obtain _ | g0 := gk
   ·exfalso; omega
   go_wp2_with fail
   go_ret
   exact ⟨by first | rw [hD] | rfl, ⟨m1, rfl⟩⟩
set_option maxRecDepth 100000 in
set_option maxHeartbeats 16000000 in
theorem few1 (hb : w.heap[g]? = some (.cells #[.slice A0 n0 c0] 22 (0, 0))) (h0 : n0 ≤ 2147483647) : Calls Tryd.prog 10 #[.slice (some ⟨g, 0, none⟩) 1 1] w fun e w' => e = .returned (.bool (decide (n0 ≤ 10000))) ∧ Drawn0 w w' := by
 have x0 : w.cell? ⟨g, 0, none⟩ = some (.slice A0 n0 c0) := by rw [cell_of_row w g 0 _ _ _ hb]; rfl
 have e0 : wrap64 (0 + (n0 : Int)) = (n0 : Int) := by unfold wrap64; omega
 have hD : decide ((n0 : Int) ≤ 10000) = decide (n0 ≤ 10000) := by rw [decide_eq_decide]; omega
 clear hb
 go_enter Tryd.func10, Tryd.ntmps10
 go_wp2_with fail
 go_loopg [3, 8] 3 (fun kq v3 v8 w' => ((v3 = .int .i64 0 ∧ v8 = .int .i64 0 ∧ Aside0 (3 ≤ kq)) ∨ (v3 = .int .i64 (n0 : Int) ∧ v8 = .int .i64 1 ∧ Aside0 (2 ≤ kq))) ∧ Drawn0 w w')
 case atStart => exact ⟨.inl ⟨rfl, rfl, ⟨Nat.le_refl _⟩⟩, Drawn0.refl _⟩
 case round =>
  obtain ⟨⟨rfl, rfl, HA⟩ | ⟨rfl, rfl, HA⟩, ⟨m1, rfl⟩⟩ := hrel
  ·have a1 := HA.out
   obtain _ | g0 := gk
   ·exfalso; omega
   go_wp2_with fail
   go_roundg g0
   case measure => omega
   case rel => exact ⟨.inr ⟨by first | rfl | rw [e0] | simp [e0], rfl, ⟨by omega⟩⟩, ⟨m1, rfl⟩⟩
  ·have a1 := HA.out
   obtain _ | g0 := gk
   ·exfalso; omega
   go_wp2_with fail
   go_ret
   exact ⟨by first | rw [hD] | rfl, ⟨m1, rfl⟩⟩
set_option maxRecDepth 100000 in
set_option maxHeartbeats 16000000 in
theorem behind (hG : Kd.C (Kd.int .u8) w A3 (xs ++ T).length (xs ++ T)) (hg : (xs ++ T).length ≤ c3) (h0 : Kd.C (Kd.int .u8) w A0 xs.length xs) (hc0 : xs.length ≤ c0) (h1 : Kd.C (Kd.int .u8) w B T.length T) (hk : T.length ≤ k) (hT : 0 < T.length) (hs : (xs ++ T).length ≤ 10000000000000) :
  Calls Tryd.prog 14 #[.slice A3 (xs ++ T).length c3, .slice A0 xs.length c0, .slice B T.length k] w fun e w' => e = .returned (.bool true) ∧ Drawn0 w w' := by
 have hR := Kd.reads_of_C (enc := Value.int .u8) (d := (0 : Int)) (h1 := fun _ => rfl) hG
 have hl : (xs ++ T).length = xs.length + T.length := List.length_append
 obtain ⟨ad, rfl, _⟩ := hR.2.2 (by omega)
 have hR1 := hR.take_ xs.length (by omega)
 have hR2 := hR.drop_ (c := c3) xs.length (by omega) hg
 rw [if_neg (by omega), List.drop_left, show (xs ++ T).length - xs.length = T.length by omega] at hR2
 rw [List.take_left] at hR1
 have S1 : Aside0 (Calls Tryd.prog 16 #[.slice (some ad) xs.length c3, .slice A0 xs.length c0] w fun e w' => e = .returned (.bool true) ∧ Drawn0 w w') := ⟨spec_Same.calls (some ad) c3 xs A0 c0 xs true w (Kd.C_of_reads (h1 := fun _ => rfl) hR1) (by omega) h0 hc0 (by unfold spec_Same.f; simp)⟩
 have S2 : Aside0 (∀ m, Calls Tryd.prog 16 #[.slice (some (ad.add xs.length)) T.length (c3 - xs.length), .slice B T.length k] (w.drewN m) fun e w' => e = .returned (.bool true) ∧ Drawn0 (w.drewN m) w') := ⟨fun m => spec_Same.calls (some (ad.add xs.length)) (c3 - xs.length) T B k T true (w.drewN m) (Kd.C_below (Kd.C_of_reads (h1 := fun _ => rfl) hR2) (pw_below_drewN (Below.refl _ _) m)) (by omega) (Kd.C_below h1 (pw_below_drewN (Below.refl _ _) m)) hk (by unfold spec_Same.f; simp)⟩
 rw [hl]
 obtain ⟨p, hp⟩ : ∃ p, p = xs.length := ⟨_, rfl⟩
 obtain ⟨r, hr⟩ : ∃ r, r = T.length := ⟨_, rfl⟩
 have e1 : wrap64 ((p : Int) + (r : Int)) = (p : Int) + (r : Int) := by unfold wrap64; omega
 have e2 : p + r - p = r := by omega
 have g1 : p < c3 := by omega
 have g2 : p + r ≤ c3 := by omega
 rw [← hp] at S1 S2 ⊢
 rw [← hr] at S2 ⊢
 clear hG hR hR1 hR2 h0 h1 hl hp hr
 go_enter Tryd.func14, Tryd.ntmps14
 go_wp2_with fail
 with_reducible refine S1.out.mono ?_
 rintro e w1 ⟨rfl, ⟨m1, rfl⟩⟩
 go_wp2_with fail
 with_reducible refine (S2.out m1).mono ?_
 rintro e w2 ⟨rfl, ⟨m2, rfl⟩⟩
 go_wp2_with fail
 go_ret
 exact ⟨rfl, by repeat (first | exact ⟨_, rfl⟩ | exact Drawn0.refl _ | apply Drawn0.step)⟩
end
end Go.Proofs.YtbikiibpjdiaaaaDoor.Err
