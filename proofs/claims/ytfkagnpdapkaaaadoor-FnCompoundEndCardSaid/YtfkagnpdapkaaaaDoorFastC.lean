/- skipFast, label by label. -/
import Derived.Test.YtfkagnpdapkaaaaDoorScC
namespace Go.Proofs.YtfkagnpdapkaaaaDoor.Err
open Go.RowKit Go.Proofs.YtfkagnpdapkaaaaDoorW.PrintWords Go.Proofs.YtfkagnpdapkaaaaDoorW.PrintLast Go.Proofs.YtfkagnpdapkaaaaDoorW.PrintMore
open Go.Proofs.YtfkagnpdapkaaaaDoor.Tab Go.Proofs.YtfkagnpdapkaaaaDoor.QF
set_option linter.unusedVariables false
set_option maxRecDepth 100000 in
set_option maxHeartbeats 8000000 in
theorem pass1 (q : ByteArray → ByteArray) (ad : Addr) (c : Nat) (L : List Int) (mx K X0 : Int) (O : Out) (w0 : World) (hX0 : 0 ≤ X0) (hB : Buf w0 ad c L) (Y : Code) (hY : findLabel (scopeOf Tryd.f114) 1 = some (Code.skip.seq Y)) (n : Nat) (a : Act) (w : World) (Q : Exit → Act → World → Prop)
    (hJ : JS q ad c L mx K X0 O w0 n 1 a w) (hQ : ∀ l a' w', (∃ n', n' < n ∧ JS q ad c L mx K X0 O w0 n' l a' w') → Q (.goto l) a' w') (hR : ∀ a' w', RS q L mx K X0 O w0 a' w' → Q .ret a' w') : Y.wp Tryd.prog Q a w := by
  have e : some (Code.skip.seq _) = some (Code.skip.seq Y) := hY
  cases e
  clear hY
  obtain ⟨f, x, lev, obj, cb, m, rfl, rfl, st, hxx, hx1, hk, hrep, hn, hlab⟩ := ms_open hJ
  clear hJ
  have hx0 : 0 ≤ x := by omega
  have HQ := Aside0.mk hQ
  have HR := Aside0.mk hR
  have HREP := Aside0.mk hrep
  have HL := Aside0.mk hlab
  have HN := Aside0.mk hn
  have HT := Aside0.mk hB.txt
  have HB := Aside0.mk hB
  have hsm := hB.small
  clear hQ hR hrep hlab hB hn
  refine wp_cut (MS ad c L mx w0 fun y lev' obj' cb' => lev = lev' ∧ obj = obj' ∧ rd L y = cb' ∧ RunTo isBlank L x y) ?_ ?_
  · intro KK hKK
    have HKK := Aside0.mk hKK
    clear hKK
    go_wp2_with fail
    with_reducible refine (char_ (HB.out.below ?b) x (by omega) (by omega)).mono ?_
    case b => exact (by repeat (first | exact Below.refl _ _ | exact HBW.out | apply pw_below_drewN))
    rintro e w1 ⟨rfl, ⟨m1, rfl⟩⟩
    by_cases c1 : rd L x ≤ 32
    · go_wp2_with fail
      go_loopg [1, 19] (L.length) (fun kq v1 v19 w' => ∃ (y : Int), v1 = .int .i64 y ∧ v19 = .int .u8 (rd L y) ∧ Aside0 (x ≤ y ∧ y < L.length ∧ (∀ k, x ≤ k → k < y → isBlank (rd L k)) ∧ (L.length : Int) ≤ y + kq) ∧ Drawn0 w0 w')
      case atStart => exact ⟨x, rfl, rfl, ⟨Int.le_refl _, by omega, fun k h1 h2 => by omega, by omega⟩, by repeat (first | exact Drawn0.refl _ | apply Drawn0.step)⟩
      case round =>
        obtain ⟨y, rfl, rfl, HA, ⟨m2, rfl⟩⟩ := hrel
        obtain ⟨hy0, hy1, hy2, hy3⟩ := HA.out
        clear HA
        have HY2 := Aside0.mk hy2
        clear hy2
        by_cases cb : isBlank (rd L y)
        · have hin := HT.out.inside (x := y) (by omega) hy1 (by unfold isBlank at cb; omega)
          have hcall := fun W => white (rd L y) W
          rw [decide_eq_true cb] at hcall
          have HC := Aside0.mk hcall
          have HCB := Aside0.mk cb
          clear cb hcall
          obtain _ | g0 := gk
          · exfalso; omega
          go_wp2_with fail
          with_reducible refine (HC.out _).mono ?_
          rintro e w2 ⟨rfl, ⟨m3, rfl⟩⟩
          go_wp2_with fail
          with_reducible refine (char_ (HB.out.below ?b) (y + 1) (by omega) (by omega)).mono ?_
          case b => exact (by repeat (first | exact Below.refl _ _ | exact HBW.out | apply pw_below_drewN))
          rintro e w2 ⟨rfl, ⟨m4, rfl⟩⟩
          go_wp2_with fail
          go_roundg g0
          case measure => omega
          case rel => exact ⟨y + 1, rfl, rfl, ⟨by omega, by omega, fun k h1 h2 => if hk : k = y then by rw [hk]; exact HCB.out else HY2.out k h1 (by omega), by omega⟩, by repeat (first | exact Drawn0.refl _ | apply Drawn0.step)⟩
        · have hcall := fun W => white (rd L y) W
          rw [decide_eq_false cb] at hcall
          have HC := Aside0.mk hcall
          have HCB := Aside0.mk cb
          clear cb hcall
          go_wp2_with fail
          with_reducible refine (HC.out _).mono ?_
          rintro e w2 ⟨rfl, ⟨m3, rfl⟩⟩
          go_wp2_with fail
          exact HKK.out _ _ ⟨⟨rfl, rfl, rfl, rfl, rfl, rfl, by repeat (first | exact Drawn0.refl _ | apply Drawn0.step)⟩, y, lev, obj, (rd L y), rfl, rfl, rfl, rfl, rfl, rfl, rfl, ⟨hy0, hy1, HY2.out, HCB.out⟩⟩
    · have HNB := Aside0.mk (show ¬ isBlank (rd L x) by unfold isBlank; omega)
      go_wp2_with fail
      exact HKK.out _ _ ⟨⟨rfl, rfl, rfl, rfl, rfl, rfl, by repeat (first | exact Drawn0.refl _ | apply Drawn0.step)⟩, x, lev, obj, (rd L x), rfl, rfl, rfl, rfl, rfl, rfl, rfl, ⟨Int.le_refl _, by omega, fun k h1 h2 => by omega, HNB.out⟩⟩
  intro a w hM
  obtain ⟨f, y, lev', obj', cb, m, rfl, rfl, hle, hoe, hcb, hrun⟩ := ms_open hM
  subst hle hoe hcb
  have hyl := hrun.le
  have hy1 := hrun.lt
  have HRUN := Aside0.mk hrun
  clear hM hrun
  obtain ⟨⟨r, rfl⟩, hO⟩ := HL.out
  have HO := Aside0.mk ((ws_out (q := q) (ph := .colon) HT.out rfl hx0 HRUN.out _).symm.trans hO)
  have HST := Aside0.mk HRUN.out.stop
  clear hO HL HRUN
  by_cases cc : rd L y = 58
  · have hin := HT.out.inside (x := y) (by omega) hy1 (by omega)
    have HO2 := Aside0.mk ((air_ok (q := q) (ph := .colon) (ph' := .val) (st := .obj :: r) (st' := .obj :: r) HT.out rfl (by omega) hin (by rw [cc]; rfl) rfl).symm.trans HO.out)
    rw [cc]
    clear cc HO HST
    go_wp2_with fail
    with_reducible refine (char_ (HB.out.below ?b) (y + 1) (by omega) (by omega)).mono ?_
    case b => exact (by repeat (first | exact Below.refl _ _ | exact HBW.out | apply pw_below_drewN))
    rintro e w1 ⟨rfl, ⟨m1, rfl⟩⟩
    by_cases cs : rd L (y + 1) = 32
    · have HO3 := Aside0.mk ((blank_out (q := q) (ph := .val) HT.out rfl (by omega) (by omega) (.inl cs) _).symm.trans HO2.out)
      have hin2 := HT.out.inside (x := y + 1) (by omega) (by omega) (by omega)
      rw [cs]
      clear cs HO2
      go_wp2_with fail
      exact wp_goto (HQ.out _ _ _ ⟨(2 * (L.length - (y + 1 + 1))).toNat, by have := HN.out; simp at this; omega, ⟨⟨rfl, rfl, rfl, rfl, rfl, rfl, by repeat (first | exact Drawn0.refl _ | apply Drawn0.step)⟩, y + 1 + 1, lev, obj, _, rfl, rfl, rfl, rfl, _, by omega, by omega, by omega, HREP.out, by simp; omega, HO3.out, .inl (by simp)⟩⟩)
    · have f1 : (rd L (y + 1) == 32) = false := beq_eq_false_iff_ne.mpr cs
      clear cs
      go_wp2_with fail
      exact wp_goto (HQ.out _ _ _ ⟨(2 * (L.length - (y + 1))).toNat, by have := HN.out; simp at this; omega, ⟨⟨rfl, rfl, rfl, rfl, rfl, rfl, by repeat (first | exact Drawn0.refl _ | apply Drawn0.step)⟩, y + 1, lev, obj, _, rfl, rfl, rfl, rfl, _, by omega, by omega, by omega, HREP.out, by simp; omega, HO2.out, .inl (by simp)⟩⟩)
  · have f1 : (rd L y == 58) = false := beq_eq_false_iff_ne.mpr cc
    have f2 : (rd L y != 58) = true := bne_iff_ne.mpr cc
    have HCC := Aside0.mk cc
    clear cc
    go_wp2_with fail
    exact HR.out _ _ ⟨rfl, by repeat (first | exact Drawn0.refl _ | apply Drawn0.step), y, lev, obj, _, 2, 4, rfl, rfl, rfl, rfl, rfl, by omega, hy1, by omega, HREP.out, .inr (.inr (.inr (.inr ⟨rfl, HST.out, .inr (.inr (.inl ⟨rfl, ⟨r, rfl⟩, HCC.out, HO.out.symm⟩))⟩)))⟩
set_option maxRecDepth 100000 in
set_option maxHeartbeats 8000000 in
theorem pass0 (q : ByteArray → ByteArray) (ad : Addr) (c : Nat) (L : List Int) (mx K X0 : Int) (O : Out) (w0 : World) (hX0 : 0 ≤ X0) (hB : Buf w0 ad c L) (Y : Code) (hY : findLabel (scopeOf Tryd.f114) 0 = some (Code.skip.seq Y)) (n : Nat) (a : Act) (w : World) (Q : Exit → Act → World → Prop)
    (hJ : JS q ad c L mx K X0 O w0 n 0 a w) (hQ : ∀ l a' w', (∃ n', n' < n ∧ JS q ad c L mx K X0 O w0 n' l a' w') → Q (.goto l) a' w') (hR : ∀ a' w', RS q L mx K X0 O w0 a' w' → Q .ret a' w') : Y.wp Tryd.prog Q a w := by
  have e : some (Code.skip.seq _) = some (Code.skip.seq Y) := hY
  cases e
  clear hY
  obtain ⟨f, x, lev, obj, cb, m, rfl, rfl, st, hxx, hx1, hk, hrep, hn, hlab⟩ := ms_open hJ
  clear hJ
  have hx0 : 0 ≤ x := by omega
  have HQ := Aside0.mk hQ
  have HR := Aside0.mk hR
  have HREP := Aside0.mk hrep
  have HL := Aside0.mk hlab
  have HN := Aside0.mk hn
  have HT := Aside0.mk hB.txt
  have HB := Aside0.mk hB
  have hsm := hB.small
  clear hQ hR hrep hlab hB hn
  obtain ⟨hne, hO⟩ := HL.out
  obtain _ | ⟨b, r⟩ := st
  · exact absurd rfl hne
  have hl1 : 1 ≤ lev ∧ lev ≤ 64 := by have h1 := HREP.out.len; have h2 := HREP.out.few; rw [List.length_cons] at h1 h2; omega
  refine wp_cut (MS ad c L mx w0 fun y lev' obj' cb' => lev = lev' ∧ obj = obj' ∧ rd L y = cb' ∧ RunTo isBlank L x y) ?_ ?_
  · intro KK hKK
    have HKK := Aside0.mk hKK
    clear hKK
    go_wp2_with fail
    with_reducible refine (char_ (HB.out.below ?b) x (by omega) (by omega)).mono ?_
    case b => exact (by repeat (first | exact Below.refl _ _ | exact HBW.out | apply pw_below_drewN))
    rintro e w1 ⟨rfl, ⟨m1, rfl⟩⟩
    by_cases c1 : rd L x ≤ 32
    · go_wp2_with fail
      go_loopg [1, 19] (L.length) (fun kq v1 v19 w' => ∃ (y : Int), v1 = .int .i64 y ∧ v19 = .int .u8 (rd L y) ∧ Aside0 (x ≤ y ∧ y < L.length ∧ (∀ k, x ≤ k → k < y → isBlank (rd L k)) ∧ (L.length : Int) ≤ y + kq) ∧ Drawn0 w0 w')
      case atStart => exact ⟨x, rfl, rfl, ⟨Int.le_refl _, by omega, fun k h1 h2 => by omega, by omega⟩, by repeat (first | exact Drawn0.refl _ | apply Drawn0.step)⟩
      case round =>
        obtain ⟨y, rfl, rfl, HA, ⟨m2, rfl⟩⟩ := hrel
        obtain ⟨hy0, hy1, hy2, hy3⟩ := HA.out
        clear HA
        have HY2 := Aside0.mk hy2
        clear hy2
        by_cases cb : isBlank (rd L y)
        · have hin := HT.out.inside (x := y) (by omega) hy1 (by unfold isBlank at cb; omega)
          have hcall := fun W => white (rd L y) W
          rw [decide_eq_true cb] at hcall
          have HC := Aside0.mk hcall
          have HCB := Aside0.mk cb
          clear cb hcall
          obtain _ | g0 := gk
          · exfalso; omega
          go_wp2_with fail
          with_reducible refine (HC.out _).mono ?_
          rintro e w2 ⟨rfl, ⟨m3, rfl⟩⟩
          go_wp2_with fail
          with_reducible refine (char_ (HB.out.below ?b) (y + 1) (by omega) (by omega)).mono ?_
          case b => exact (by repeat (first | exact Below.refl _ _ | exact HBW.out | apply pw_below_drewN))
          rintro e w2 ⟨rfl, ⟨m4, rfl⟩⟩
          go_wp2_with fail
          go_roundg g0
          case measure => omega
          case rel => exact ⟨y + 1, rfl, rfl, ⟨by omega, by omega, fun k h1 h2 => if hk : k = y then by rw [hk]; exact HCB.out else HY2.out k h1 (by omega), by omega⟩, by repeat (first | exact Drawn0.refl _ | apply Drawn0.step)⟩
        · have hcall := fun W => white (rd L y) W
          rw [decide_eq_false cb] at hcall
          have HC := Aside0.mk hcall
          have HCB := Aside0.mk cb
          clear cb hcall
          go_wp2_with fail
          with_reducible refine (HC.out _).mono ?_
          rintro e w2 ⟨rfl, ⟨m3, rfl⟩⟩
          go_wp2_with fail
          exact HKK.out _ _ ⟨⟨rfl, rfl, rfl, rfl, rfl, rfl, by repeat (first | exact Drawn0.refl _ | apply Drawn0.step)⟩, y, lev, obj, (rd L y), rfl, rfl, rfl, rfl, rfl, rfl, rfl, ⟨hy0, hy1, HY2.out, HCB.out⟩⟩
    · have HNB := Aside0.mk (show ¬ isBlank (rd L x) by unfold isBlank; omega)
      go_wp2_with fail
      exact HKK.out _ _ ⟨⟨rfl, rfl, rfl, rfl, rfl, rfl, by repeat (first | exact Drawn0.refl _ | apply Drawn0.step)⟩, x, lev, obj, (rd L x), rfl, rfl, rfl, rfl, rfl, rfl, rfl, ⟨Int.le_refl _, by omega, fun k h1 h2 => by omega, HNB.out⟩⟩
  intro a w hM
  obtain ⟨f, y, lev', obj', cb, m, rfl, rfl, hle, hoe, hcb, hrun⟩ := ms_open hM
  subst hle hoe hcb
  have hyl := hrun.le
  have hy1 := hrun.lt
  have HRUN := Aside0.mk hrun
  clear hM hrun
  have HO := Aside0.mk ((ws_out (q := q) HT.out (closed_airy _ hne) hx0 HRUN.out _).symm.trans hO)
  have HST := Aside0.mk HRUN.out.stop
  have hbt := bit_top HREP.out
  clear hO HL HRUN hne
  obtain _ | _ | _ := b
  · have HO : Aside0 (out q L .memb (.obj :: r) y = O) := HO
    replace hbt : (bits BinOp.and IntKind.u64 obj (IntKind.u64.wrap (2 ^ (lev.toNat - 1))) != 0) = true := hbt
    by_cases cc : rd L y = 44
    · have hin := HT.out.inside (x := y) (by omega) hy1 (by omega)
      have HO2 := Aside0.mk ((air_ok (q := q) (ph := .memb) (ph' := .name) (st := .obj :: r) (st' := .obj :: r) HT.out rfl (by omega) hin (by rw [cc]; rfl) rfl).symm.trans HO.out)
      have f1 : (rd L y == 44) = true := beq_iff_eq.mpr cc
      clear HO cc HST
      go_wp2_with fail
      with_reducible refine (char_ (HB.out.below ?b) (y + 1) (by omega) (by omega)).mono ?_
      case b => exact (by repeat (first | exact Below.refl _ _ | exact HBW.out | apply pw_below_drewN))
      rintro e w1 ⟨rfl, ⟨m1, rfl⟩⟩
      by_cases c1 : rd L (y + 1) ≤ 32
      · go_wp2_with fail
        go_loopg [1, 19] (L.length) (fun kq v1 v19 w' => ∃ (z : Int), v1 = .int .i64 z ∧ v19 = .int .u8 (rd L z) ∧ Aside0 (y + 1 ≤ z ∧ z < L.length ∧ (∀ k, y + 1 ≤ k → k < z → isBlank (rd L k)) ∧ (L.length : Int) ≤ z + kq) ∧ Drawn0 w0 w')
        case atStart => exact ⟨y + 1, rfl, rfl, ⟨Int.le_refl _, by omega, fun k h1 h2 => by omega, by omega⟩, by repeat (first | exact Drawn0.refl _ | apply Drawn0.step)⟩
        case round =>
          obtain ⟨z, rfl, rfl, HA, ⟨m2, rfl⟩⟩ := hrel
          obtain ⟨hz0, hz1, hz2, hz3⟩ := HA.out
          clear HA
          have HZ2 := Aside0.mk hz2
          clear hz2
          by_cases cbl : isBlank (rd L z)
          · have hin := HT.out.inside (x := z) (by omega) hz1 (by unfold isBlank at cbl; omega)
            have hcall := fun W => white (rd L z) W
            rw [decide_eq_true cbl] at hcall
            have HC := Aside0.mk hcall
            have HCB := Aside0.mk cbl
            clear cbl hcall
            obtain _ | g0 := gk
            · exfalso; omega
            go_wp2_with fail
            with_reducible refine (HC.out _).mono ?_
            rintro e w2 ⟨rfl, ⟨m3, rfl⟩⟩
            go_wp2_with fail
            with_reducible refine (char_ (HB.out.below ?b) (z + 1) (by omega) (by omega)).mono ?_
            case b => exact (by repeat (first | exact Below.refl _ _ | exact HBW.out | apply pw_below_drewN))
            rintro e w2 ⟨rfl, ⟨m4, rfl⟩⟩
            go_wp2_with fail
            go_roundg g0
            case measure => omega
            case rel => exact ⟨z + 1, rfl, rfl, ⟨by omega, by omega, fun k h1 h2 => if hk : k = z then by rw [hk]; exact HCB.out else HZ2.out k h1 (by omega), by omega⟩, by repeat (first | exact Drawn0.refl _ | apply Drawn0.step)⟩
          · have hcall := fun W => white (rd L z) W
            rw [decide_eq_false cbl] at hcall
            have HC := Aside0.mk hcall
            have HZR := Aside0.mk (show RunTo isBlank L (y + 1) z from ⟨hz0, hz1, HZ2.out, cbl⟩)
            clear cbl hcall HZ2
            go_wp2_with fail
            with_reducible refine (HC.out _).mono ?_
            rintro e w2 ⟨rfl, ⟨m3, rfl⟩⟩
            have HO3 := Aside0.mk ((ws_out (q := q) (ph := .name) HT.out rfl (by omega) HZR.out _).symm.trans HO2.out)
            have hzl := HZR.out.le
            have hz1' := HZR.out.lt
            go_wp2_with fail
            exact wp_goto (HQ.out _ _ _ ⟨(2 * (L.length - z)).toNat, by have := HN.out; simp at this; omega, ⟨⟨rfl, rfl, rfl, rfl, rfl, rfl, by repeat (first | exact Drawn0.refl _ | apply Drawn0.step)⟩, z, lev, obj, _, rfl, rfl, rfl, rfl, _, by omega, by omega, by omega, HREP.out, by simp; omega, ⟨_, rfl⟩, HO3.out, rfl, HZR.out.stop⟩⟩)
      · have HZR := Aside0.mk (show RunTo isBlank L (y + 1) (y + 1) from ⟨Int.le_refl _, by omega, fun k h1 h2 => by omega, by unfold isBlank; omega⟩)
        have HO3 := Aside0.mk ((ws_out (q := q) (ph := .name) HT.out rfl (by omega) HZR.out _).symm.trans HO2.out)
        have hzl := HZR.out.le
        have hz1' := HZR.out.lt
        go_wp2_with fail
        exact wp_goto (HQ.out _ _ _ ⟨(2 * (L.length - (y + 1))).toNat, by have := HN.out; simp at this; omega, ⟨⟨rfl, rfl, rfl, rfl, rfl, rfl, by repeat (first | exact Drawn0.refl _ | apply Drawn0.step)⟩, (y + 1), lev, obj, _, rfl, rfl, rfl, rfl, _, by omega, by omega, by omega, HREP.out, by simp; omega, ⟨_, rfl⟩, HO3.out, rfl, HZR.out.stop⟩⟩)
    by_cases cs : rd L y = 125
    · have hin := HT.out.inside (x := y) (by omega) hy1 (by omega)
      have HO2 := Aside0.mk ((air_shut (q := q) (ph := .memb) (st := .obj :: r) HT.out rfl (by omega) hin (by rw [cs]; rfl)).symm.trans HO.out)
      have f1 : (rd L y == 44) = false := beq_eq_false_iff_ne.mpr cc
      have f2 : (rd L y == 125) = true := beq_iff_eq.mpr cs
      clear HO cc cs HST
      go_wp2_with fail
      exact wp_goto (HQ.out _ _ _ ⟨(2 * (L.length - (y + 1)) + 1).toNat, by have := HN.out; simp at this; omega, ⟨⟨rfl, rfl, rfl, rfl, rfl, rfl, by repeat (first | exact Drawn0.refl _ | apply Drawn0.step)⟩, y + 1, lev, obj, _, rfl, rfl, rfl, rfl, _, by omega, by omega, by omega, HREP.out, by simp; omega, by simp, HO2.out⟩⟩)
    · have f1 : (rd L y == 44) = false := beq_eq_false_iff_ne.mpr cc
      have f2 : (rd L y == 125) = false := beq_eq_false_iff_ne.mpr cs
      have HC := Aside0.mk (And.intro cc cs)
      clear cc cs
      go_wp2_with fail
      exact HR.out _ _ ⟨rfl, by repeat (first | exact Drawn0.refl _ | apply Drawn0.step), y, lev, obj, _, 1, 4, rfl, rfl, rfl, rfl, rfl, by omega, hy1, by omega, HREP.out, .inr (.inr (.inr (.inr ⟨rfl, HST.out, .inr (.inl ⟨rfl, .inl ⟨r, rfl, HC.out.1, HC.out.2⟩, HO.out.symm⟩)⟩)))⟩
  · have HO : Aside0 (out q L .item (.arr :: r) y = O) := HO
    replace hbt : (bits BinOp.and IntKind.u64 obj (IntKind.u64.wrap (2 ^ (lev.toNat - 1))) != 0) = false := hbt
    by_cases cc : rd L y = 44
    · have hin := HT.out.inside (x := y) (by omega) hy1 (by omega)
      have HO2 := Aside0.mk ((air_ok (q := q) (ph := .item) (ph' := .val) (st := .arr :: r) (st' := .arr :: r) HT.out rfl (by omega) hin (by rw [cc]; rfl) rfl).symm.trans HO.out)
      have f1 : (rd L y == 44) = true := beq_iff_eq.mpr cc
      clear HO cc HST
      go_wp2_with fail
      exact wp_goto (HQ.out _ _ _ ⟨(2 * (L.length - (y + 1))).toNat, by have := HN.out; simp at this; omega, ⟨⟨rfl, rfl, rfl, rfl, rfl, rfl, by repeat (first | exact Drawn0.refl _ | apply Drawn0.step)⟩, y + 1, lev, obj, _, rfl, rfl, rfl, rfl, _, by omega, by omega, by omega, HREP.out, by simp; omega, HO2.out, .inl (by simp)⟩⟩)
    by_cases cs : rd L y = 93
    · have hin := HT.out.inside (x := y) (by omega) hy1 (by omega)
      have HO2 := Aside0.mk ((air_shut (q := q) (ph := .item) (st := .arr :: r) HT.out rfl (by omega) hin (by rw [cs]; rfl)).symm.trans HO.out)
      have f1 : (rd L y == 44) = false := beq_eq_false_iff_ne.mpr cc
      have f2 : (rd L y == 93) = true := beq_iff_eq.mpr cs
      clear HO cc cs HST
      go_wp2_with fail
      exact wp_goto (HQ.out _ _ _ ⟨(2 * (L.length - (y + 1)) + 1).toNat, by have := HN.out; simp at this; omega, ⟨⟨rfl, rfl, rfl, rfl, rfl, rfl, by repeat (first | exact Drawn0.refl _ | apply Drawn0.step)⟩, y + 1, lev, obj, _, rfl, rfl, rfl, rfl, _, by omega, by omega, by omega, HREP.out, by simp; omega, by simp, HO2.out⟩⟩)
    · have f1 : (rd L y == 44) = false := beq_eq_false_iff_ne.mpr cc
      have f2 : (rd L y == 93) = false := beq_eq_false_iff_ne.mpr cs
      have HC := Aside0.mk (And.intro cc cs)
      clear cc cs
      go_wp2_with fail
      exact HR.out _ _ ⟨rfl, by repeat (first | exact Drawn0.refl _ | apply Drawn0.step), y, lev, obj, _, 1, 4, rfl, rfl, rfl, rfl, rfl, by omega, hy1, by omega, HREP.out, .inr (.inr (.inr (.inr ⟨rfl, HST.out, .inr (.inl ⟨rfl, .inr ⟨r, rfl, HC.out.1, HC.out.2⟩, HO.out.symm⟩)⟩)))⟩
  · exact absurd (HREP.out.plain .key (by simp)) (by decide)
set_option maxRecDepth 100000 in
set_option maxHeartbeats 8000000 in
theorem pass4 (q : ByteArray → ByteArray) (ad : Addr) (c : Nat) (L : List Int) (mx K X0 : Int) (O : Out) (w0 : World) (hX0 : 0 ≤ X0) (hB : Buf w0 ad c L) (hGL : Glob w0) (Y : Code) (hY : findLabel (scopeOf Tryd.f114) 4 = some (Code.skip.seq Y)) (n : Nat) (a : Act) (w : World) (Q : Exit → Act → World → Prop)
    (hJ : JS q ad c L mx K X0 O w0 n 4 a w) (hQ : ∀ l a' w', (∃ n', n' < n ∧ JS q ad c L mx K X0 O w0 n' l a' w') → Q (.goto l) a' w') (hR : ∀ a' w', RS q L mx K X0 O w0 a' w' → Q .ret a' w') : Y.wp Tryd.prog Q a w := by
  have e : some (Code.skip.seq _) = some (Code.skip.seq Y) := hY
  cases e
  clear hY
  obtain ⟨f, x, lev, obj, cb, m, rfl, rfl, st, hxx, hx1, hk, hrep, hn, hlab⟩ := ms_open hJ
  clear hJ
  have hx0 : 0 ≤ x := by omega
  have HQ := Aside0.mk hQ
  have HR := Aside0.mk hR
  have HREP := Aside0.mk hrep
  have HL := Aside0.mk hlab
  have HN := Aside0.mk hn
  have HGL := Aside0.mk hGL
  clear hGL
  have HT := Aside0.mk hB.txt
  have HB := Aside0.mk hB
  have hsm := hB.small
  clear hQ hR hrep hlab hB hn
  obtain ⟨⟨r, rfl⟩, hO, rfl, hnb⟩ := HL.out
  have HO := Aside0.mk hO
  have HNB := Aside0.mk hnb
  clear hO hnb HL
  by_cases cq : rd L x = 34
  · have hin := HT.out.inside (x := x) (by omega) hx1 (by omega)
    have HO2 := Aside0.mk ((air_ok (q := q) (ph := .name) (ph' := .text) (st := .obj :: r) (st' := .key :: r) HT.out rfl (by omega) hin (by rw [cq]; rfl) rfl).symm.trans HO.out)
    have HX34 := Aside0.mk cq
    rw [cq]
    clear cq HO HNB
    go_wp2_with fail
    go_loopg [1, 26] (L.length) (fun kq v1 v2 w' => ∃ (p : Int), v1 = .int .i64 x ∧ v2 = .int .i64 p ∧ Aside0 (x + 1 ≤ p ∧ p ≤ L.length ∧ (∀ k, x + 1 ≤ k → k < p → Plain (rd L k)) ∧ (L.length : Int) ≤ p + kq) ∧ Drawn0 w0 w')
    case atStart => exact ⟨x + 1, rfl, rfl, ⟨Int.le_refl _, by omega, fun k h1 h2 => by omega, by omega⟩, by repeat (first | exact Drawn0.refl _ | apply Drawn0.step)⟩
    case round =>
      obtain ⟨p, rfl, rfl, HA, ⟨m2, rfl⟩⟩ := hrel
      obtain ⟨hp0, hp1, hp2, hp3⟩ := HA.out
      clear HA
      have HP2 := Aside0.mk hp2
      clear hp2
      by_cases c8 : p + 8 ≤ L.length
      · obtain ⟨W, S, hW, hS, hor⟩ := word_at HT.out p (by omega) c8
        have HW := Aside0.mk hW
        have HS := Aside0.mk hS
        clear hW hS
        rcases hor with ⟨rfl, hpl⟩ | ⟨hS0, j, hj0, hj8, htz, hpl, hsp⟩
        · have HPL := Aside0.mk hpl
          clear hpl
          obtain _ | g0 := gk
          · exfalso; omega
          go_wp2_with fail
          with_reducible refine (gojson_load64.calls (some ad) c L p W _ (HB.out.below ?b).C HB.out.cap HW.out).mono ?_
          case b => exact (by repeat (first | exact Below.refl _ _ | exact HBW.out | apply pw_below_drewN))
          rintro e w2 ⟨rfl, ⟨m3, rfl⟩⟩
          go_wp2_with fail
          with_reducible refine (gojson_keyEndBytes.calls W 0 _ HS.out).mono ?_
          rintro e w2 ⟨rfl, ⟨m4, rfl⟩⟩
          go_wp2_with fail
          go_roundg g0
          case measure => omega
          case rel => exact ⟨p + 8, rfl, rfl, ⟨by omega, c8, fun k h1 h2 => if h : k < p then HP2.out k h1 h else HPL.out k (by omega) h2, by omega⟩, by repeat (first | exact Drawn0.refl _ | apply Drawn0.step)⟩
        · have HPL := Aside0.mk (show ∀ k, x + 1 ≤ k → k < p + j → Plain (rd L k) from fun k h1 h2 => if h : k < p then HP2.out k h1 h else hpl k (by omega) h2)
          have HTZ := Aside0.mk htz
          have HSP := Aside0.mk hsp
          have f0 : (S == 0) = false := beq_eq_false_iff_ne.mpr hS0
          have f00 : (S != 0) = true := bne_iff_ne.mpr hS0
          have hdiv : Int.tdiv (8 * j + 7) 8 = j := by rw [Int.tdiv_eq_ediv_of_nonneg (by omega)]; omega
          have hdiv2 : (8 * j + 7) / 8 = j := by omega
          clear hpl htz hsp HP2 hS0
          go_wp2_with fail
          with_reducible refine (gojson_load64.calls (some ad) c L p W _ (HB.out.below ?b).C HB.out.cap HW.out).mono ?_
          case b => exact (by repeat (first | exact Below.refl _ _ | exact HBW.out | apply pw_below_drewN))
          rintro e w2 ⟨rfl, ⟨m3, rfl⟩⟩
          go_wp2_with fail
          with_reducible refine (gojson_keyEndBytes.calls W S _ HS.out).mono ?_
          rintro e w2 ⟨rfl, ⟨m4, rfl⟩⟩
          go_wp2_with fail
          with_reducible refine (tz64.calls S (8 * j + 7) _ (HGL.out.below ?b) HTZ.out).mono ?_
          case b => exact (by repeat (first | exact Below.refl _ _ | exact HBW.out | apply pw_below_drewN))
          rintro e w2 ⟨rfl, ⟨m5, rfl⟩⟩
          go_wp2_with fail
          with_reducible refine (char_ (HB.out.below ?b) (p + j) (by omega) (by omega)).mono ?_
          case b => exact (by repeat (first | exact Below.refl _ _ | exact HBW.out | apply pw_below_drewN))
          rintro e w2 ⟨rfl, ⟨m6, rfl⟩⟩
          by_cases cq : rd L (p + j) = 34
          · have HQ34 := Aside0.mk cq
            have hin := HT.out.inside (x := p + j) (by omega) (by omega) (by omega)
            rw [cq]
            clear cq
            have HO3 := Aside0.mk (((plain_out (q := q) HT.out (by omega) (by omega) (by omega) HPL.out (.key :: r)).trans (txt_quote HT.out (by omega) (by omega) HQ34.out)).symm.trans HO2.out)
            go_wp2_with fail
            exact wp_goto (HQ.out _ _ _ ⟨(2 * (L.length - (p + j + 1))).toNat, by have := HN.out; simp at this; omega, ⟨⟨rfl, rfl, rfl, rfl, rfl, rfl, by repeat (first | exact Drawn0.refl _ | apply Drawn0.step)⟩, p + j + 1, lev, obj, _, rfl, rfl, rfl, rfl, _, by omega, by omega, by omega, HREP.out, by simp; omega, ⟨r, rfl⟩, HO3.out⟩⟩)
          · have f1 : (rd L (p + j) == 34) = false := beq_eq_false_iff_ne.mpr cq
            clear cq
            go_wp2_with fail
            exact HR.out _ _ ⟨rfl, by repeat (first | exact Drawn0.refl _ | apply Drawn0.step), x, lev, obj, _, 2, 1, rfl, rfl, rfl, rfl, rfl, by omega, by omega, by omega, HREP.out, .inr (.inl ⟨rfl, HX34.out, .inr ⟨rfl, r, rfl, HO2.out.symm⟩⟩)⟩
      · clear HP2
        go_wp2_with fail
        exact HR.out _ _ ⟨rfl, by repeat (first | exact Drawn0.refl _ | apply Drawn0.step), x, lev, obj, _, 2, 1, rfl, rfl, rfl, rfl, rfl, by omega, by omega, by omega, HREP.out, .inr (.inl ⟨rfl, HX34.out, .inr ⟨rfl, r, rfl, HO2.out.symm⟩⟩)⟩
  · have f1 : (rd L x == 34) = false := beq_eq_false_iff_ne.mpr cq
    have f2 : (rd L x != 34) = true := bne_iff_ne.mpr cq
    have HC := Aside0.mk cq
    clear cq
    go_wp2_with fail
    exact HR.out _ _ ⟨rfl, by repeat (first | exact Drawn0.refl _ | apply Drawn0.step), x, lev, obj, _, 3, 4, rfl, rfl, rfl, rfl, rfl, by omega, by omega, by omega, HREP.out, .inr (.inr (.inr (.inr ⟨rfl, HNB.out, .inr (.inr (.inr ⟨rfl, ⟨r, rfl⟩, HC.out, HO.out.symm⟩))⟩)))⟩
end Go.Proofs.YtfkagnpdapkaaaaDoor.Err
