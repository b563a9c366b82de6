/- skipGrammar from a value. -/
import Derived.Test.YtfkagnpdapkaaaaDoorGramB
namespace Go.Proofs.YtfkagnpdapkaaaaDoor.Err
open Go.RowKit Go.Proofs.YtfkagnpdapkaaaaDoorW.PrintWords Go.Proofs.YtfkagnpdapkaaaaDoorW.PrintLast Go.Proofs.YtfkagnpdapkaaaaDoorW.PrintMore
open Go.Proofs.YtfkagnpdapkaaaaDoor.Tab Go.Proofs.YtfkagnpdapkaaaaDoor.QF
set_option linter.unusedVariables false
set_option maxRecDepth 100000 in
set_option maxHeartbeats 8000000 in
theorem gpass1 (q : ByteArray → ByteArray) (ad : Addr) (c : Nat) (L : List Int) (nn : Int) (O : Out) (w0 : World) (hG : G q w0) (hB : Buf w0 ad c L) (hnn : nn + L.length - 1 ≤ 10000) (hn0 : -1 ≤ nn) (Y : Code) (hY : findLabel (scopeOf Tryd.f88) 1 = some (Code.skip.seq Y)) (n : Nat) (a : Act) (w : World) (Q : Exit → Act → World → Prop)
    (hJ : JG q ad c L nn O w0 n 1 a w) (hQ : ∀ l a' w', (∃ n', n' < n ∧ JG q ad c L nn O w0 n' l a' w') → Q (.goto l) a' w') (hR : ∀ a' w', RG O w0 a' w' → Q .ret a' w') : Y.wp Tryd.prog Q a w := by
  have e : some (Code.skip.seq _) = some (Code.skip.seq Y) := hY
  cases e
  clear hY
  obtain ⟨f, x, lev, obj, v, D, rfl, hbw, hrow, st, hx0, hx1, hlx, hrep, hdl, hn, hlab⟩ := gs_open hJ
  clear hJ
  have hlen0 : lev = st.length := hrep.len
  have hlev0 : 0 ≤ lev := by omega
  clear hlen0
  have HQ := Aside0.mk hQ
  have HR := Aside0.mk hR
  have HREP := Aside0.mk hrep
  have HL := Aside0.mk hlab
  have HN := Aside0.mk hn
  have HT := Aside0.mk hB.txt
  have HB := Aside0.mk hB
  have HG := Aside0.mk hG
  have HGL := Aside0.mk hG.tab
  have HBW := Aside0.mk hbw
  have HROW := Aside0.mk hrow
  have hsm := hB.small
  clear hQ hR hrep hlab hB hG hn hbw hrow
  go_wp2_with fail
  go_loopg [1] (L.length) (fun kq v1 w' => ∃ (z : Int), v1 = .int .i64 z ∧ Aside0 (x ≤ z ∧ z < L.length ∧ (∀ k, x ≤ k → k < z → isBlank (rd L k)) ∧ (L.length : Int) ≤ z + kq) ∧ Drawn0 w w')
  case atStart => exact ⟨x, rfl, ⟨Int.le_refl _, by omega, fun k h1 h2 => by omega, by omega⟩, by repeat (first | exact Drawn0.refl _ | apply Drawn0.step)⟩
  case round =>
    obtain ⟨z, rfl, HA, ⟨m2, rfl⟩⟩ := hrel
    obtain ⟨hz0, hz1, hz2, hz3⟩ := HA.out
    clear HA
    have HZ2 := Aside0.mk hz2
    clear hz2
    by_cases cbl : isBlank (rd L z)
    · have hin := HT.out.inside (x := z) (by omega) hz1 (by unfold isBlank at cbl; omega)
      have hcall := fun W => white (rd L z) W
      rw [decide_eq_true cbl] at hcall
      have HC := Aside0.mk hcall
      have HCB := Aside0.mk cbl
      clear cbl hcall
      obtain _ | g0 := gk
      · exfalso; omega
      go_wp2_with fail
      with_reducible refine (char_ (HB.out.below ?e1) (z) (by omega) (by omega)).mono ?_
      case e1 => exact (by repeat (first | exact HBW.out | apply pw_below_drewN))
      rintro e w1 ⟨rfl, ⟨m1, rfl⟩⟩
      go_wp2_with fail
      with_reducible refine (HC.out _).mono ?_
      rintro e w2 ⟨rfl, ⟨m3, rfl⟩⟩
      go_wp2_with fail
      go_roundg g0
      case measure => omega
      case rel => exact ⟨z + 1, rfl, ⟨by omega, by omega, fun k h1 h2 => if hk : k = z then by rw [hk]; exact HCB.out else HZ2.out k h1 (by omega), by omega⟩, by repeat (first | exact Drawn0.refl _ | apply Drawn0.step)⟩
    · have hcall := fun W => white (rd L z) W
      rw [decide_eq_false cbl] at hcall
      have HC := Aside0.mk hcall
      have HZR := Aside0.mk (show RunTo isBlank L (x) z from ⟨hz0, hz1, HZ2.out, cbl⟩)
      clear cbl hcall HZ2
      go_wp2_with fail
      with_reducible refine (char_ (HB.out.below ?e2) (z) (by omega) (by omega)).mono ?_
      case e2 => exact (by repeat (first | exact HBW.out | apply pw_below_drewN))
      rintro e w1 ⟨rfl, ⟨m1, rfl⟩⟩
      go_wp2_with fail
      with_reducible refine (HC.out _).mono ?_
      rintro e w2 ⟨rfl, ⟨m3, rfl⟩⟩
      have HO := Aside0.mk ((ws_out (q := q) (ph := .val) HT.out rfl (by omega) HZR.out st).symm.trans HL.out)
      have hzl := HZR.out.le
      have HNB := Aside0.mk HZR.out.stop
      have hz00 : 0 ≤ z := by omega
      clear HL HZR
      go_wp2_with fail
      with_reducible refine (char_ (HB.out.below ?e3) (z) (by omega) (by omega)).mono ?_
      case e3 => exact (by repeat (first | exact HBW.out | apply pw_below_drewN))
      rintro e w1 ⟨rfl, ⟨m1, rfl⟩⟩
      go_upto_block 2 with (fail)
      rename_i KL hKL
      have HKK : Aside0 (∀ a w', GS ad c L nn w0 (fun y lev' obj' D' => z < y ∧ y < L.length ∧ lev' ≤ y ∧ RepD lev' obj' D' st ∧ D'.length ≤ 1000 ∧ contO q L st y = O) a w' → KL a w') := ⟨fun a w' hM => by
        obtain ⟨hF, y, lev', obj', v', D', h1, h3, h4, h17, hR, g1, g2, g3, g4, g5, g6⟩ := hM
        refine hKL _ _ (wp_seq (wp_label (gpass0 q ad c L nn O w0 HG.out HB.out hnn hn0 _ rfl (L.length - y).toNat a w' Q ?_ (fun l a' w' h => by obtain ⟨n', h5, h6⟩ := h; exact HQ.out l a' w' ⟨n', by have := HN.out; omega, h6⟩) HR.out)))
        exact ⟨hF, y, lev', obj', v', D', h1, h3, h4, h17, hR, st, by omega, g2, g3, g4, g5, by omega, g6⟩⟩
      clear hKL
      by_cases cc : rd L z = 123
      · as_aux_lemma =>
          obtain ⟨hv, hy2⟩ := val_obj (q := q) (st := st) HT.out hz00 hz1 cc
          have HO2 := Aside0.mk (hv.symm.trans HO.out)
          have hin0 := HT.out.inside (x := z) hz00 hz1 (by omega)
          have hml : lev + 1 ≤ 10000 - nn := by omega
          rw [cc]
          clear cc hv HO HNB HKK
          go_upto_if 68 with (fail)
          go_cut [4, 17] from 67 to 85 (fun v4 v17 wx => ∃ (obj' : Int) (D' : List Int), v4 = .int .u64 obj' ∧ Aside0 (RepD (lev + 1) obj' D' (.obj :: st)) ∧ Aside0 (Row w0 wx v17 D') ∧ Aside0 (Below w0.heap.size w0 wx) ∧ Aside0 (D'.length ≤ 1000))
          case first =>
            by_cases c64 : lev < 64
            · have HREP2 := Aside0.mk (HREP.out.pushObj c64)
              go_wp2_with fail
              go_meet
              case rel => exact ⟨_, D, rfl, HREP2, ⟨(HROW.out.below (pw_below_drewN (Below.refl _ _) _))⟩, ⟨(by repeat (first | exact HBW.out | apply pw_below_drewN))⟩, ⟨hdl⟩⟩
            · go_wp2_with fail
              with_reducible refine (pushDeeper w0 _ v D lev true (HROW.out.below (pw_below_drewN (Below.refl _ _) _)) (by repeat (first | exact HBW.out | apply pw_below_drewN)) HREP.out.words hdl (by omega) (by omega)).mono ?_
              rintro e w2 ⟨v', D', rfl, hr2, hb2, hd2, hdp⟩
              have HREP2 : Aside0 (RepD (lev + 1) obj D' (.obj :: st)) := ⟨HREP.out.deeper (by omega) rfl hdp⟩
              have HR2 := Aside0.mk hr2
              have HB2 := Aside0.mk hb2
              clear hr2 hb2 hdp
              go_wp2_with fail
              go_meet
              case rel => exact ⟨obj, D', rfl, HREP2, HR2, HB2, ⟨hd2⟩⟩
          case rest =>
            clear HREP HROW HBW hdl
            obtain ⟨obj', D', rfl, HREP, HROW, HBW, HDL⟩ := hcut
            have hdl' := HDL.out
            go_wp2_with fail
            go_loopg [1] (L.length) (fun kq v1 w' => ∃ (u : Int), v1 = .int .i64 u ∧ Aside0 (z + 1 ≤ u ∧ u < L.length ∧ (∀ k, z + 1 ≤ k → k < u → isBlank (rd L k)) ∧ (L.length : Int) ≤ u + kq) ∧ Drawn0 wc w')
            case atStart => exact ⟨z + 1, rfl, ⟨Int.le_refl _, by omega, fun k h1 h2 => by omega, by omega⟩, by repeat (first | exact Drawn0.refl _ | apply Drawn0.step)⟩
            case round =>
              obtain ⟨u, rfl, HA, ⟨m2, rfl⟩⟩ := hrel
              obtain ⟨hz0, hz1, hz2, hz3⟩ := HA.out
              clear HA
              have HZ2 := Aside0.mk hz2
              clear hz2
              by_cases cbl : isBlank (rd L u)
              · have hin := HT.out.inside (x := u) (by omega) hz1 (by unfold isBlank at cbl; omega)
                have hcall := fun W => white (rd L u) W
                rw [decide_eq_true cbl] at hcall
                have HC := Aside0.mk hcall
                have HCB := Aside0.mk cbl
                clear cbl hcall
                obtain _ | g0 := gk
                · exfalso; omega
                go_wp2_with fail
                with_reducible refine (char_ (HB.out.below ?e4) (u) (by omega) (by omega)).mono ?_
                case e4 => exact (by repeat (first | exact HBW.out | apply pw_below_drewN))
                rintro e w1 ⟨rfl, ⟨m1, rfl⟩⟩
                go_wp2_with fail
                with_reducible refine (HC.out _).mono ?_
                rintro e w2 ⟨rfl, ⟨m3, rfl⟩⟩
                go_wp2_with fail
                go_roundg g0
                case measure => omega
                case rel => exact ⟨u + 1, rfl, ⟨by omega, by omega, fun k h1 h2 => if hk : k = u then by rw [hk]; exact HCB.out else HZ2.out k h1 (by omega), by omega⟩, by repeat (first | exact Drawn0.refl _ | apply Drawn0.step)⟩
              · have hcall := fun W => white (rd L u) W
                rw [decide_eq_false cbl] at hcall
                have HC := Aside0.mk hcall
                have HZR := Aside0.mk (show RunTo isBlank L (z + 1) u from ⟨hz0, hz1, HZ2.out, cbl⟩)
                clear cbl hcall HZ2
                go_wp2_with fail
                with_reducible refine (char_ (HB.out.below ?e5) (u) (by omega) (by omega)).mono ?_
                case e5 => exact (by repeat (first | exact HBW.out | apply pw_below_drewN))
                rintro e w1 ⟨rfl, ⟨m1, rfl⟩⟩
                go_wp2_with fail
                with_reducible refine (HC.out _).mono ?_
                rintro e w2 ⟨rfl, ⟨m3, rfl⟩⟩
                have HO3 := Aside0.mk ((ws_out (q := q) (ph := .name0) HT.out rfl (by omega) HZR.out _).symm.trans HO2.out)
                have hul := HZR.out.le
                go_wp2_with fail
                with_reducible refine (char_ (HB.out.below ?e6) (u) (by omega) (by omega)).mono ?_
                case e6 => exact (by repeat (first | exact HBW.out | apply pw_below_drewN))
                rintro e w1 ⟨rfl, ⟨m1, rfl⟩⟩
                by_cases ce : rd L u = 125
                · have hin := HT.out.inside (x := u) (by omega) (by omega) (by omega)
                  have HO4 := Aside0.mk ((air_shut (q := q) (ph := .name0) (st := .obj :: st) HT.out rfl (by omega) hin (by rw [ce]; rfl)).symm.trans HO3.out)
                  have HREP9 : Aside0 (RepD lev obj' D' st) := ⟨by have h := HREP.out.pop; rw [show lev + 1 - 1 = lev by omega] at h; exact h⟩
                  have hle : lev + 1 - 1 = lev := by omega
                  rw [ce]
                  clear ce
                  go_wp2_with fail
                  exact wp_goto (HQ.out _ _ _ ⟨(L.length - (u + 1)).toNat, by have := HN.out; omega, ⟨⟨rfl, rfl, rfl, rfl, rfl, rfl, (by repeat (first | exact HBW.out | apply pw_below_drewN))⟩, (u + 1), lev, obj', _, _, rfl, rfl, rfl, rfl, (HROW.out.below (pw_below_drewN (Below.refl _ _) _)), _, by omega, by omega, by omega, HREP9.out, hdl', by omega, HO4.out⟩⟩)
                · have HO4 := Aside0.mk ((name0_name (q := q) (st := .obj :: st) HT.out (by omega) (by omega) HZR.out.stop ce).symm.trans HO3.out)
                  have f9 : (rd L u == 125) = false := beq_eq_false_iff_ne.mpr ce
                  clear ce
                  go_wp2_with fail
                  exact wp_goto (HQ.out _ _ _ ⟨(L.length - (u)).toNat, by have := HN.out; omega, ⟨⟨rfl, rfl, rfl, rfl, rfl, rfl, (by repeat (first | exact HBW.out | apply pw_below_drewN))⟩, (u), lev + 1, obj', _, _, rfl, rfl, rfl, rfl, (HROW.out.below (pw_below_drewN (Below.refl _ _) _)), _, by omega, by omega, by omega, HREP.out, hdl', by omega, ⟨⟨_, rfl⟩, HO4.out, HZR.out.stop⟩⟩⟩)
      by_cases cc : rd L z = 91
      · as_aux_lemma =>
          obtain ⟨hv, hy2⟩ := val_arr (q := q) (st := st) HT.out hz00 hz1 cc
          have HO2 := Aside0.mk (hv.symm.trans HO.out)
          have hin0 := HT.out.inside (x := z) hz00 hz1 (by omega)
          have hml : lev + 1 ≤ 10000 - nn := by omega
          rw [cc]
          clear cc hv HO HNB HKK
          go_upto_if 68 with (fail)
          go_cut [4, 17] from 67 to 85 (fun v4 v17 wx => ∃ (obj' : Int) (D' : List Int), v4 = .int .u64 obj' ∧ Aside0 (RepD (lev + 1) obj' D' (.arr :: st)) ∧ Aside0 (Row w0 wx v17 D') ∧ Aside0 (Below w0.heap.size w0 wx) ∧ Aside0 (D'.length ≤ 1000))
          case first =>
            by_cases c64 : lev < 64
            · have HREP2 := Aside0.mk (HREP.out.pushArr c64)
              go_wp2_with fail
              go_meet
              case rel => exact ⟨_, D, rfl, HREP2, ⟨(HROW.out.below (pw_below_drewN (Below.refl _ _) _))⟩, ⟨(by repeat (first | exact HBW.out | apply pw_below_drewN))⟩, ⟨hdl⟩⟩
            · go_wp2_with fail
              with_reducible refine (pushDeeper w0 _ v D lev false (HROW.out.below (pw_below_drewN (Below.refl _ _) _)) (by repeat (first | exact HBW.out | apply pw_below_drewN)) HREP.out.words hdl (by omega) (by omega)).mono ?_
              rintro e w2 ⟨v', D', rfl, hr2, hb2, hd2, hdp⟩
              have HREP2 : Aside0 (RepD (lev + 1) obj D' (.arr :: st)) := ⟨HREP.out.deeper (by omega) rfl hdp⟩
              have HR2 := Aside0.mk hr2
              have HB2 := Aside0.mk hb2
              clear hr2 hb2 hdp
              go_wp2_with fail
              go_meet
              case rel => exact ⟨obj, D', rfl, HREP2, HR2, HB2, ⟨hd2⟩⟩
          case rest =>
            clear HREP HROW HBW hdl
            obtain ⟨obj', D', rfl, HREP, HROW, HBW, HDL⟩ := hcut
            have hdl' := HDL.out
            go_wp2_with fail
            go_loopg [1] (L.length) (fun kq v1 w' => ∃ (u : Int), v1 = .int .i64 u ∧ Aside0 (z + 1 ≤ u ∧ u < L.length ∧ (∀ k, z + 1 ≤ k → k < u → isBlank (rd L k)) ∧ (L.length : Int) ≤ u + kq) ∧ Drawn0 wc w')
            case atStart => exact ⟨z + 1, rfl, ⟨Int.le_refl _, by omega, fun k h1 h2 => by omega, by omega⟩, by repeat (first | exact Drawn0.refl _ | apply Drawn0.step)⟩
            case round =>
              obtain ⟨u, rfl, HA, ⟨m2, rfl⟩⟩ := hrel
              obtain ⟨hz0, hz1, hz2, hz3⟩ := HA.out
              clear HA
              have HZ2 := Aside0.mk hz2
              clear hz2
              by_cases cbl : isBlank (rd L u)
              · have hin := HT.out.inside (x := u) (by omega) hz1 (by unfold isBlank at cbl; omega)
                have hcall := fun W => white (rd L u) W
                rw [decide_eq_true cbl] at hcall
                have HC := Aside0.mk hcall
                have HCB := Aside0.mk cbl
                clear cbl hcall
                obtain _ | g0 := gk
                · exfalso; omega
                go_wp2_with fail
                with_reducible refine (char_ (HB.out.below ?e7) (u) (by omega) (by omega)).mono ?_
                case e7 => exact (by repeat (first | exact HBW.out | apply pw_below_drewN))
                rintro e w1 ⟨rfl, ⟨m1, rfl⟩⟩
                go_wp2_with fail
                with_reducible refine (HC.out _).mono ?_
                rintro e w2 ⟨rfl, ⟨m3, rfl⟩⟩
                go_wp2_with fail
                go_roundg g0
                case measure => omega
                case rel => exact ⟨u + 1, rfl, ⟨by omega, by omega, fun k h1 h2 => if hk : k = u then by rw [hk]; exact HCB.out else HZ2.out k h1 (by omega), by omega⟩, by repeat (first | exact Drawn0.refl _ | apply Drawn0.step)⟩
              · have hcall := fun W => white (rd L u) W
                rw [decide_eq_false cbl] at hcall
                have HC := Aside0.mk hcall
                have HZR := Aside0.mk (show RunTo isBlank L (z + 1) u from ⟨hz0, hz1, HZ2.out, cbl⟩)
                clear cbl hcall HZ2
                go_wp2_with fail
                with_reducible refine (char_ (HB.out.below ?e8) (u) (by omega) (by omega)).mono ?_
                case e8 => exact (by repeat (first | exact HBW.out | apply pw_below_drewN))
                rintro e w1 ⟨rfl, ⟨m1, rfl⟩⟩
                go_wp2_with fail
                with_reducible refine (HC.out _).mono ?_
                rintro e w2 ⟨rfl, ⟨m3, rfl⟩⟩
                have HO3 := Aside0.mk ((ws_out (q := q) (ph := .item0) HT.out rfl (by omega) HZR.out _).symm.trans HO2.out)
                have hul := HZR.out.le
                go_wp2_with fail
                with_reducible refine (char_ (HB.out.below ?e9) (u) (by omega) (by omega)).mono ?_
                case e9 => exact (by repeat (first | exact HBW.out | apply pw_below_drewN))
                rintro e w1 ⟨rfl, ⟨m1, rfl⟩⟩
                by_cases ce : rd L u = 93
                · have hin := HT.out.inside (x := u) (by omega) (by omega) (by omega)
                  have HO4 := Aside0.mk ((air_shut (q := q) (ph := .item0) (st := .arr :: st) HT.out rfl (by omega) hin (by rw [ce]; rfl)).symm.trans HO3.out)
                  have HREP9 : Aside0 (RepD lev obj' D' st) := ⟨by have h := HREP.out.pop; rw [show lev + 1 - 1 = lev by omega] at h; exact h⟩
                  have hle : lev + 1 - 1 = lev := by omega
                  rw [ce]
                  clear ce
                  go_wp2_with fail
                  exact wp_goto (HQ.out _ _ _ ⟨(L.length - (u + 1)).toNat, by have := HN.out; omega, ⟨⟨rfl, rfl, rfl, rfl, rfl, rfl, (by repeat (first | exact HBW.out | apply pw_below_drewN))⟩, (u + 1), lev, obj', _, _, rfl, rfl, rfl, rfl, (HROW.out.below (pw_below_drewN (Below.refl _ _) _)), _, by omega, by omega, by omega, HREP9.out, hdl', by omega, HO4.out⟩⟩)
                · have HO4 := Aside0.mk ((item0_val (q := q) (st := .arr :: st) HT.out (by omega) (by omega) HZR.out.stop ce).symm.trans HO3.out)
                  have f9 : (rd L u == 93) = false := beq_eq_false_iff_ne.mpr ce
                  clear ce
                  go_wp2_with fail
                  exact wp_goto (HQ.out _ _ _ ⟨(L.length - (u)).toNat, by have := HN.out; omega, ⟨⟨rfl, rfl, rfl, rfl, rfl, rfl, (by repeat (first | exact HBW.out | apply pw_below_drewN))⟩, (u), lev + 1, obj', _, _, rfl, rfl, rfl, rfl, (HROW.out.below (pw_below_drewN (Below.refl _ _) _)), _, by omega, by omega, by omega, HREP.out, hdl', by omega, HO4.out⟩⟩)
      by_cases cq : rd L z = 34
      · as_aux_lemma =>
          obtain ⟨hv, hy2⟩ := val_text (q := q) (st := st) HT.out hz00 hz1 cq
          have HO2 := Aside0.mk (hv.symm.trans HO.out)
          have HX34 := Aside0.mk cq
          rw [cq]
          clear cq hv HNB
          go_wp2_with fail
          go_loopg [1, 19] (L.length) (fun kq v1 v2 w' => ∃ (p : Int), v1 = .int .i64 z ∧ v2 = .int .i64 p ∧ Aside0 (z + 1 ≤ p ∧ p ≤ L.length ∧ (∀ k, z + 1 ≤ k → k < p → Plain (rd L k)) ∧ (L.length : Int) ≤ p + kq) ∧ Drawn0 w w')
          case atStart => exact ⟨z + 1, rfl, rfl, ⟨Int.le_refl _, by omega, fun k h1 h2 => by omega, by omega⟩, by repeat (first | exact Drawn0.refl _ | apply Drawn0.step)⟩
          case round =>
            obtain ⟨p, rfl, rfl, HA, ⟨m2, rfl⟩⟩ := hrel
            obtain ⟨hp0, hp1, hp2, hp3⟩ := HA.out
            clear HA
            have HP2 := Aside0.mk hp2
            clear hp2
            by_cases c8 : p + 8 ≤ L.length
            · obtain ⟨W, S, hW, hS, hor⟩ := word_at HT.out p (by omega) c8
              have HW := Aside0.mk hW
              have HS := Aside0.mk hS
              clear hW hS
              rcases hor with ⟨rfl, hpl⟩ | ⟨hS0, j, hj0, hj8, htz, hpl, hsp⟩
              · have HPL := Aside0.mk hpl
                clear hpl
                obtain _ | g0 := gk
                · exfalso; omega
                go_wp2_with fail
                with_reducible refine (gojson_load64.calls (some ad) c L p W _ (HB.out.below ?e10).C HB.out.cap HW.out).mono ?_
                case e10 => exact (by repeat (first | exact HBW.out | apply pw_below_drewN))
                rintro e w2 ⟨rfl, ⟨m3, rfl⟩⟩
                go_wp2_with fail
                with_reducible refine (gojson_keyEndBytes.calls W 0 _ HS.out).mono ?_
                rintro e w2 ⟨rfl, ⟨m4, rfl⟩⟩
                go_wp2_with fail
                go_roundg g0
                case measure => omega
                case rel => exact ⟨p + 8, rfl, rfl, ⟨by omega, c8, fun k h1 h2 => if h : k < p then HP2.out k h1 h else HPL.out k (by omega) h2, by omega⟩, by repeat (first | exact Drawn0.refl _ | apply Drawn0.step)⟩
              · have HPL := Aside0.mk (show ∀ k, z + 1 ≤ k → k < p + j → Plain (rd L k) from fun k h1 h2 => if h : k < p then HP2.out k h1 h else hpl k (by omega) h2)
                have HTZ := Aside0.mk htz
                have HSP := Aside0.mk hsp
                have f0 : (S == 0) = false := beq_eq_false_iff_ne.mpr hS0
                have f00 : (S != 0) = true := bne_iff_ne.mpr hS0
                have hdiv : Int.tdiv (8 * j + 7) 8 = j := by rw [Int.tdiv_eq_ediv_of_nonneg (by omega)]; omega
                have hdiv2 : (8 * j + 7) / 8 = j := by omega
                clear hpl htz hsp HP2 hS0
                go_wp2_with fail
                with_reducible refine (gojson_load64.calls (some ad) c L p W _ (HB.out.below ?e11).C HB.out.cap HW.out).mono ?_
                case e11 => exact (by repeat (first | exact HBW.out | apply pw_below_drewN))
                rintro e w2 ⟨rfl, ⟨m3, rfl⟩⟩
                go_wp2_with fail
                with_reducible refine (gojson_keyEndBytes.calls W S _ HS.out).mono ?_
                rintro e w2 ⟨rfl, ⟨m4, rfl⟩⟩
                go_wp2_with fail
                with_reducible refine (tz64.calls S (8 * j + 7) _ (HGL.out.below ?e12) HTZ.out).mono ?_
                case e12 => exact (by repeat (first | exact HBW.out | apply pw_below_drewN))
                rintro e w2 ⟨rfl, ⟨m5, rfl⟩⟩
                go_wp2_with fail
                with_reducible refine (char_ (HB.out.below ?e13) (p + j) (by omega) (by omega)).mono ?_
                case e13 => exact (by repeat (first | exact HBW.out | apply pw_below_drewN))
                rintro e w2 ⟨rfl, ⟨m6, rfl⟩⟩
                by_cases cq : rd L (p + j) = 34
                · have HQ34 := Aside0.mk cq
                  have hin2 := HT.out.inside (x := p + j) (by omega) (by omega) (by omega)
                  rw [cq]
                  clear cq
                  have HO3 := Aside0.mk (((plain_out (q := q) HT.out (by omega) (by omega) (by omega) HPL.out st).trans (txt_quote HT.out (by omega) (by omega) HQ34.out)).symm.trans HO2.out)
                  go_wp2_with fail
                  exact wp_goto (HQ.out _ _ _ ⟨(L.length - (p + j + 1)).toNat, by have := HN.out; omega, ⟨⟨rfl, rfl, rfl, rfl, rfl, rfl, (by repeat (first | exact HBW.out | apply pw_below_drewN))⟩, (p + j + 1), lev, obj, _, _, rfl, rfl, rfl, rfl, (HROW.out.below (pw_below_drewN (Below.refl _ _) _)), st, by omega, by omega, by omega, HREP.out, hdl, by omega, HO3.out⟩⟩)
                · have f1 : (rd L (p + j) == 34) = false := beq_eq_false_iff_ne.mpr cq
                  clear cq
                  go_wp2_with fail
                  with_reducible refine (skipString q ad c L (z) _ (HG.out.below ?c14) (HB.out.below ?d14) (by omega) (by omega) HX34.out).mono ?_
                  case c14 => exact (by repeat (first | exact HBW.out | apply pw_below_drewN))
                  case d14 => exact (by repeat (first | exact HBW.out | apply pw_below_drewN))
                  rintro e w2 ⟨hb, ⟨d, hends, hd0, hd1, rfl⟩ | ⟨s, v2, hbad, ⟨s', g, rfl, hp⟩, rfl⟩⟩
                  · have HROW2 := Aside0.mk (show Row w0 w2 v D from (HROW.out.below (pw_below_drewN (Below.refl _ _) _)).below hb)
                    have HBW2 := Aside0.mk (show Below w0.heap.size w0 w2 from below_step (by repeat (first | exact HBW.out | apply pw_below_drewN)) hb)
                    have HE := Aside0.mk hends
                    clear hb hends
                    go_wp2_with fail
                    refine HKK.out _ _ ⟨⟨rfl, rfl, rfl, rfl, rfl, rfl, HBW2.out⟩, d, lev, obj, _, _, rfl, rfl, rfl, rfl, HROW2.out, by omega, by omega, by omega, HREP.out, hdl, ?_⟩
                    exact (HE.out st).symm.trans HO2.out
                  · have HB2 := Aside0.mk (show Below w0.heap.size w0 w2 from below_step (by repeat (first | exact HBW.out | apply pw_below_drewN)) hb)
                    have HS := Aside0.mk (hbad [])
                    have HO4 := Aside0.mk (HO2.out.symm.trans (hbad st))
                    clear hb hbad hp
                    go_wp2_with fail
                    with_reducible refine (stringError q ad c L (z) _ s _ (HG.out.below HB2.out) (HB.out.below HB2.out) (by omega) (by omega) HS.out).mono ?_
                    rintro e w3 ⟨v3, rfl, hv, hb⟩
                    have HV := Aside0.mk hv
                    have HB3 := Aside0.mk (below_step HB2.out hb)
                    clear hv hb
                    go_wp2_with fail
                    exact HR.out _ _ ⟨rfl, HB3.out, .inr ⟨s, v3, HO4.out, HV.out, rfl, rfl⟩⟩
            · clear HP2
              go_wp2_with fail
              with_reducible refine (skipString q ad c L (z) _ (HG.out.below ?c15) (HB.out.below ?d15) (by omega) (by omega) HX34.out).mono ?_
              case c15 => exact (by repeat (first | exact HBW.out | apply pw_below_drewN))
              case d15 => exact (by repeat (first | exact HBW.out | apply pw_below_drewN))
              rintro e w2 ⟨hb, ⟨d, hends, hd0, hd1, rfl⟩ | ⟨s, v2, hbad, ⟨s', g, rfl, hp⟩, rfl⟩⟩
              · have HROW2 := Aside0.mk (show Row w0 w2 v D from (HROW.out.below (pw_below_drewN (Below.refl _ _) _)).below hb)
                have HBW2 := Aside0.mk (show Below w0.heap.size w0 w2 from below_step (by repeat (first | exact HBW.out | apply pw_below_drewN)) hb)
                have HE := Aside0.mk hends
                clear hb hends
                go_wp2_with fail
                refine HKK.out _ _ ⟨⟨rfl, rfl, rfl, rfl, rfl, rfl, HBW2.out⟩, d, lev, obj, _, _, rfl, rfl, rfl, rfl, HROW2.out, by omega, by omega, by omega, HREP.out, hdl, ?_⟩
                exact (HE.out st).symm.trans HO2.out
              · have HB2 := Aside0.mk (show Below w0.heap.size w0 w2 from below_step (by repeat (first | exact HBW.out | apply pw_below_drewN)) hb)
                have HS := Aside0.mk (hbad [])
                have HO4 := Aside0.mk (HO2.out.symm.trans (hbad st))
                clear hb hbad hp
                go_wp2_with fail
                with_reducible refine (stringError q ad c L (z) _ s _ (HG.out.below HB2.out) (HB.out.below HB2.out) (by omega) (by omega) HS.out).mono ?_
                rintro e w3 ⟨v3, rfl, hv, hb⟩
                have HV := Aside0.mk hv
                have HB3 := Aside0.mk (below_step HB2.out hb)
                clear hv hb
                go_wp2_with fail
                exact HR.out _ _ ⟨rfl, HB3.out, .inr ⟨s, v3, HO4.out, HV.out, rfl, rfl⟩⟩
      by_cases cd : 49 ≤ rd L z ∧ rd L z ≤ 57
      · as_aux_lemma =>
          have hdg : isDig (rd L z) := by unfold isDig; omega
          have hin := dig_next HT.out hz00 hz1 hdg
          have HV := Aside0.mk (show Same q L .val z .whole (z + 1) from val_dig (q := q) HT.out hz00 hz1 hdg (by omega))
          have h9 : rd L z = 49 ∨ rd L z = 50 ∨ rd L z = 51 ∨ rd L z = 52 ∨ rd L z = 53 ∨ rd L z = 54 ∨ rd L z = 55 ∨ rd L z = 56 ∨ rd L z = 57 := by omega
          clear hdg cd
          rcases h9 with h9 | h9 | h9 | h9 | h9 | h9 | h9 | h9 | h9
          all_goals
            rw [h9]
            clear h9
            go_wp2_with fail
            go_loopg [1] (L.length) (fun kq v1 w' => ∃ (p : Int), v1 = .int .i64 p ∧ Aside0 (z + 1 ≤ p ∧ p < L.length ∧ (∀ k, z + 1 ≤ k → k < p → isDig (rd L k)) ∧ (L.length : Int) ≤ p + kq) ∧ Drawn0 w w')
            case atStart => exact ⟨z + 1, rfl, ⟨Int.le_refl _, by omega, fun k h1 h2 => by omega, by omega⟩, by repeat (first | exact Drawn0.refl _ | apply Drawn0.step)⟩
            case round =>
              obtain ⟨p, rfl, HA, ⟨m2, rfl⟩⟩ := hrel
              obtain ⟨hp0, hp1, hp2, hp3⟩ := HA.out
              clear HA
              have HP2 := Aside0.mk hp2
              clear hp2
              have hbp := HT.out.bytes p (by omega) hp1
              by_cases ci : isDig (rd L p)
              · have hin2 := dig_next HT.out (by omega) hp1 ci
                have HCI := Aside0.mk ci
                have hci : 48 ≤ rd L p ∧ rd L p ≤ 57 := ci
                clear ci
                obtain _ | g1 := gk
                · exfalso; omega
                go_wp2_with fail
                with_reducible refine (char_ (HB.out.below ?e16) (p) (by omega) (by omega)).mono ?_
                case e16 => exact (by repeat (first | exact HBW.out | apply pw_below_drewN))
                rintro e w1 ⟨rfl, ⟨m1, rfl⟩⟩
                go_wp2_with fail
                go_roundg g1
                case measure => omega
                case rel => exact ⟨p + 1, rfl, ⟨by omega, by omega, fun k h1 h2 => if hk : k = p then by rw [hk]; exact HCI.out else HP2.out k h1 (by omega), by omega⟩, by repeat (first | exact Drawn0.refl _ | apply Drawn0.step)⟩
              · have HNI := Aside0.mk ci
                have hci : rd L p < 48 ∨ 57 < rd L p := by unfold isDig at ci; omega
                have HRUN := Aside0.mk (show RunTo isDig L (z + 1) p from ⟨hp0, hp1, HP2.out, ci⟩)
                have HS := Aside0.mk (show Same q L .val z .whole p from HV.out.trans (whole_digs HT.out (by omega) HRUN.out))
                clear ci HP2
                go_wp2_with fail
                with_reducible refine (char_ (HB.out.below ?e17) (p) (by omega) (by omega)).mono ?_
                case e17 => exact (by repeat (first | exact HBW.out | apply pw_below_drewN))
                rintro e w1 ⟨rfl, ⟨m1, rfl⟩⟩
                go_wp2_with fail
                go_wp2_with fail
                with_reducible refine (char_ (HB.out.below ?e18) (p) (by omega) (by omega)).mono ?_
                case e18 => exact (by repeat (first | exact HBW.out | apply pw_below_drewN))
                rintro e w1 ⟨rfl, ⟨m1, rfl⟩⟩
                by_cases cp : rd L p = 46 ∨ rd L p = 101 ∨ rd L p = 69
                · rcases cp with cp | cp | cp
                  all_goals
                    rw [cp]
                    clear cp hbp hci
                    go_wp2_with fail
                    with_reducible refine (rest_whole q ad c L z p _ (HG.out.below ?c19) (HB.out.below ?d19) (by omega) hp1 HNI.out).mono ?_
                    case c19 => exact (by repeat (first | exact HBW.out | apply pw_below_drewN))
                    case d19 => exact (by repeat (first | exact HBW.out | apply pw_below_drewN))
                    rintro e w2 (⟨d, hd0, hd1, hends, rfl, hb⟩ | ⟨s, v2, hbad, rfl, hv, hb⟩)
                    · have HROW2 := Aside0.mk (show Row w0 w2 v D from (HROW.out.below (pw_below_drewN (Below.refl _ _) _)).below hb)
                      have HBW2 := Aside0.mk (show Below w0.heap.size w0 w2 from below_step (by repeat (first | exact HBW.out | apply pw_below_drewN)) hb)
                      have HE := Aside0.mk ((HS.out st).trans (hends st))
                      have hzd : z < d := by first | omega | exact num_after HT.out (by omega) (by omega) HNUM.out hd0 (hends [])
                      clear hb hends
                      go_wp2_with fail
                      refine HKK.out _ _ ⟨⟨rfl, rfl, rfl, rfl, rfl, rfl, HBW2.out⟩, d, lev, obj, _, _, rfl, rfl, rfl, rfl, HROW2.out, by omega, by omega, by omega, HREP.out, hdl, ?_⟩
                      exact HE.out.symm.trans HO.out
                    · have HB2 := Aside0.mk (show Below w0.heap.size w0 w2 from below_step (by repeat (first | exact HBW.out | apply pw_below_drewN)) hb)
                      have HO4 := Aside0.mk (HO.out.symm.trans ((HS.out st).trans (hbad st)))
                      have HV := Aside0.mk hv
                      obtain ⟨g, rfl⟩ : ∃ g, v2 = .iface 86 (.pointer (some ⟨g, 0, none⟩)) := ⟨_, hv.choose_spec.1⟩
                      clear hb hbad hv
                      go_wp2_with fail
                      exact HR.out _ _ ⟨rfl, HB2.out, .inr ⟨s, _, HO4.out, HV.out, rfl, rfl⟩⟩
                · have g1 : (rd L p == 46) = false := beq_eq_false_iff_ne.mpr (by omega)
                  have g2 : (rd L p == 101) = false := beq_eq_false_iff_ne.mpr (by omega)
                  have g3 : (rd L p == 69) = false := beq_eq_false_iff_ne.mpr (by omega)
                  have HEND := Aside0.mk (HS.out.ends (whole_ends HT.out (by omega) hp1 HNI.out (by omega) (by omega) (by omega)) st)
                  clear cp
                  go_wp2_with fail
                  refine HKK.out _ _ ⟨⟨rfl, rfl, rfl, rfl, rfl, rfl, (by repeat (first | exact HBW.out | apply pw_below_drewN))⟩, p, lev, obj, _, _, rfl, rfl, rfl, rfl, (HROW.out.below (pw_below_drewN (Below.refl _ _) _)), by omega, by omega, by omega, HREP.out, hdl, ?_⟩
                  exact HEND.out.symm.trans HO.out
      by_cases cc : rd L z = 48
      · as_aux_lemma =>
          have hin := HT.out.inside (x := z) hz00 hz1 (by omega)
          have HV := Aside0.mk (show Same q L .val z .zero (z + 1) from val_zero (q := q) HT.out hz00 hz1 cc)
          rw [cc]
          clear cc
          go_wp2_with fail
          with_reducible refine (char_ (HB.out.below ?e20) (z + 1) (by omega) (by omega)).mono ?_
          case e20 => exact (by repeat (first | exact HBW.out | apply pw_below_drewN))
          rintro e w1 ⟨rfl, ⟨m1, rfl⟩⟩
          by_cases cp : rd L (z + 1) = 46 ∨ rd L (z + 1) = 101 ∨ rd L (z + 1) = 69
          · rcases cp with cp | cp | cp
            all_goals
              rw [cp]
              clear cp
              go_wp2_with fail
              with_reducible refine (rest_zero q ad c L z (z + 1) _ (HG.out.below ?c21) (HB.out.below ?d21) (by omega) (by omega)).mono ?_
              case c21 => exact (by repeat (first | exact HBW.out | apply pw_below_drewN))
              case d21 => exact (by repeat (first | exact HBW.out | apply pw_below_drewN))
              rintro e w2 (⟨d, hd0, hd1, hends, rfl, hb⟩ | ⟨s, v2, hbad, rfl, hv, hb⟩)
              · have HROW2 := Aside0.mk (show Row w0 w2 v D from (HROW.out.below (pw_below_drewN (Below.refl _ _) _)).below hb)
                have HBW2 := Aside0.mk (show Below w0.heap.size w0 w2 from below_step (by repeat (first | exact HBW.out | apply pw_below_drewN)) hb)
                have HE := Aside0.mk ((HV.out st).trans (hends st))
                have hzd : z < d := by first | omega | exact num_after HT.out (by omega) (by omega) HNUM.out hd0 (hends [])
                clear hb hends
                go_wp2_with fail
                refine HKK.out _ _ ⟨⟨rfl, rfl, rfl, rfl, rfl, rfl, HBW2.out⟩, d, lev, obj, _, _, rfl, rfl, rfl, rfl, HROW2.out, by omega, by omega, by omega, HREP.out, hdl, ?_⟩
                exact HE.out.symm.trans HO.out
              · have HB2 := Aside0.mk (show Below w0.heap.size w0 w2 from below_step (by repeat (first | exact HBW.out | apply pw_below_drewN)) hb)
                have HO4 := Aside0.mk (HO.out.symm.trans ((HV.out st).trans (hbad st)))
                have HV := Aside0.mk hv
                obtain ⟨g, rfl⟩ : ∃ g, v2 = .iface 86 (.pointer (some ⟨g, 0, none⟩)) := ⟨_, hv.choose_spec.1⟩
                clear hb hbad hv
                go_wp2_with fail
                exact HR.out _ _ ⟨rfl, HB2.out, .inr ⟨s, _, HO4.out, HV.out, rfl, rfl⟩⟩
          · have g1 : (rd L (z + 1) == 46) = false := beq_eq_false_iff_ne.mpr (by omega)
            have g2 : (rd L (z + 1) == 101) = false := beq_eq_false_iff_ne.mpr (by omega)
            have g3 : (rd L (z + 1) == 69) = false := beq_eq_false_iff_ne.mpr (by omega)
            have HEND := Aside0.mk (HV.out.ends (zero_ends HT.out (by omega) (by omega) (by omega) (by omega) (by omega)) st)
            clear cp
            go_wp2_with fail
            refine HKK.out _ _ ⟨⟨rfl, rfl, rfl, rfl, rfl, rfl, (by repeat (first | exact HBW.out | apply pw_below_drewN))⟩, z + 1, lev, obj, _, _, rfl, rfl, rfl, rfl, (HROW.out.below (pw_below_drewN (Below.refl _ _) _)), by omega, by omega, by omega, HREP.out, hdl, ?_⟩
            exact HEND.out.symm.trans HO.out
      by_cases cc : rd L z = 45
      · as_aux_lemma =>
          have HNUM := Aside0.mk (show rd L z = 45 ∨ isDig (rd L z) from .inl cc)
          rw [cc]
          clear cc
          go_wp2_with fail
          with_reducible refine (skipNumber q ad c L z _ (HG.out.below ?c22) (HB.out.below ?d22) hz00 hz1 HNUM.out).mono ?_
          case c22 => exact (by repeat (first | exact HBW.out | apply pw_below_drewN))
          case d22 => exact (by repeat (first | exact HBW.out | apply pw_below_drewN))
          rintro e w2 (⟨d, hd0, hd1, hends, rfl, hb⟩ | ⟨s, v2, hbad, rfl, hv, hb⟩)
          · have HROW2 := Aside0.mk (show Row w0 w2 v D from (HROW.out.below (pw_below_drewN (Below.refl _ _) _)).below hb)
            have HBW2 := Aside0.mk (show Below w0.heap.size w0 w2 from below_step (by repeat (first | exact HBW.out | apply pw_below_drewN)) hb)
            have HE := Aside0.mk ((Eq.refl (out q L .val st z)).trans (hends st))
            have hzd : z < d := by first | omega | exact num_after HT.out (by omega) (by omega) HNUM.out hd0 (hends [])
            clear hb hends
            go_wp2_with fail
            refine HKK.out _ _ ⟨⟨rfl, rfl, rfl, rfl, rfl, rfl, HBW2.out⟩, d, lev, obj, _, _, rfl, rfl, rfl, rfl, HROW2.out, by omega, by omega, by omega, HREP.out, hdl, ?_⟩
            exact HE.out.symm.trans HO.out
          · have HB2 := Aside0.mk (show Below w0.heap.size w0 w2 from below_step (by repeat (first | exact HBW.out | apply pw_below_drewN)) hb)
            have HO4 := Aside0.mk (HO.out.symm.trans ((Eq.refl (out q L .val st z)).trans (hbad st)))
            have HV := Aside0.mk hv
            obtain ⟨g, rfl⟩ : ∃ g, v2 = .iface 86 (.pointer (some ⟨g, 0, none⟩)) := ⟨_, hv.choose_spec.1⟩
            clear hb hbad hv
            go_wp2_with fail
            exact HR.out _ _ ⟨rfl, HB2.out, .inr ⟨s, _, HO4.out, HV.out, rfl, rfl⟩⟩
      by_cases cc : rd L z = 116
      · as_aux_lemma =>
          obtain ⟨hv, hy2⟩ := val_t (q := q) (st := st) HT.out hz00 hz1 cc
          have HCC := Aside0.mk cc
          have HV := Aside0.mk hv
          rw [cc]
          clear cc hv
          by_cases m1 : rd L (z + 1) = 114
          rotate_left
          · have HM := Aside0.mk (show Mis L z lTrue 1 from ⟨by decide, by decide, by omega, fun j h1 h2 => by
              obtain h := (show False by omega)
              exact h.elim, m1⟩)
            have f1 : (rd L (z + 1) == 114) = false := beq_eq_false_iff_ne.mpr m1
            have f2 : (rd L (z + 1) != 114) = true := bne_iff_ne.mpr m1
            have HF := Aside0.mk (HO.out.symm.trans (mis_true (q := q) (st := st) HT.out hz00 hz1 HCC.out HM.out))
            clear m1
            go_wp2_with fail
            with_reducible refine (char_ (HB.out.below ?e23) (z + 1) (by omega) (by omega)).mono ?_
            case e23 => exact (by repeat (first | exact HBW.out | apply pw_below_drewN))
            rintro e w1 ⟨rfl, ⟨m1, rfl⟩⟩
            go_wp2_with fail
            with_reducible refine (litTrue q ad c L z 1 _ (HG.out.below ?c24) (HB.out.below ?d24) hz00 HM.out).mono ?_
            case c24 => exact (by repeat (first | exact HBW.out | apply pw_below_drewN))
            case d24 => exact (by repeat (first | exact HBW.out | apply pw_below_drewN))
            rintro e w2 ⟨v2, rfl, hv, hb⟩
            have HV := Aside0.mk hv
            have HB2 := Aside0.mk (show Below w0.heap.size w0 w2 from below_step (by repeat (first | exact HBW.out | apply pw_below_drewN)) hb)
            clear hv hb
            go_wp2_with fail
            exact HR.out _ _ ⟨rfl, HB2.out, .inr ⟨_, v2, HF.out, HV.out, rfl, rfl⟩⟩
          have M1 := Aside0.mk m1
          have hlt1 : z + 1 + 1 < L.length := by have := HT.out.inside (x := z + 1) (by omega) (by omega) (by omega); omega
          clear m1
          by_cases m2 : rd L (z + 2) = 117
          rotate_left
          · have HM := Aside0.mk (show Mis L z lTrue 2 from ⟨by decide, by decide, by omega, fun j h1 h2 => by
              obtain rfl := (show j = 1 by omega)
              all_goals first | exact M1.out, m2⟩)
            have f1 : (rd L (z + 2) == 117) = false := beq_eq_false_iff_ne.mpr m2
            have f2 : (rd L (z + 2) != 117) = true := bne_iff_ne.mpr m2
            have HF := Aside0.mk (HO.out.symm.trans (mis_true (q := q) (st := st) HT.out hz00 hz1 HCC.out HM.out))
            clear m2
            go_wp2_with fail
            with_reducible refine (char_ (HB.out.below ?e25) (z + 1) (by omega) (by omega)).mono ?_
            case e25 => exact (by repeat (first | exact HBW.out | apply pw_below_drewN))
            rintro e w1 ⟨rfl, ⟨m1, rfl⟩⟩
            rw [M1.out]
            go_wp2_with fail
            with_reducible refine (char_ (HB.out.below ?e26) (z + 2) (by omega) (by omega)).mono ?_
            case e26 => exact (by repeat (first | exact HBW.out | apply pw_below_drewN))
            rintro e w1 ⟨rfl, ⟨m1, rfl⟩⟩
            go_wp2_with fail
            with_reducible refine (litTrue q ad c L z 2 _ (HG.out.below ?c27) (HB.out.below ?d27) hz00 HM.out).mono ?_
            case c27 => exact (by repeat (first | exact HBW.out | apply pw_below_drewN))
            case d27 => exact (by repeat (first | exact HBW.out | apply pw_below_drewN))
            rintro e w2 ⟨v2, rfl, hv, hb⟩
            have HV := Aside0.mk hv
            have HB2 := Aside0.mk (show Below w0.heap.size w0 w2 from below_step (by repeat (first | exact HBW.out | apply pw_below_drewN)) hb)
            clear hv hb
            go_wp2_with fail
            exact HR.out _ _ ⟨rfl, HB2.out, .inr ⟨_, v2, HF.out, HV.out, rfl, rfl⟩⟩
          have M2 := Aside0.mk m2
          have hlt2 : z + 2 + 1 < L.length := by have := HT.out.inside (x := z + 2) (by omega) (by omega) (by omega); omega
          clear m2
          by_cases m3 : rd L (z + 3) = 101
          rotate_left
          · have HM := Aside0.mk (show Mis L z lTrue 3 from ⟨by decide, by decide, by omega, fun j h1 h2 => by
              obtain rfl | rfl := (show j = 1 ∨ j = 2 by omega)
              all_goals first | exact M1.out | exact M2.out, m3⟩)
            have f1 : (rd L (z + 3) == 101) = false := beq_eq_false_iff_ne.mpr m3
            have f2 : (rd L (z + 3) != 101) = true := bne_iff_ne.mpr m3
            have HF := Aside0.mk (HO.out.symm.trans (mis_true (q := q) (st := st) HT.out hz00 hz1 HCC.out HM.out))
            clear m3
            go_wp2_with fail
            with_reducible refine (char_ (HB.out.below ?e28) (z + 1) (by omega) (by omega)).mono ?_
            case e28 => exact (by repeat (first | exact HBW.out | apply pw_below_drewN))
            rintro e w1 ⟨rfl, ⟨m1, rfl⟩⟩
            rw [M1.out]
            go_wp2_with fail
            with_reducible refine (char_ (HB.out.below ?e29) (z + 2) (by omega) (by omega)).mono ?_
            case e29 => exact (by repeat (first | exact HBW.out | apply pw_below_drewN))
            rintro e w1 ⟨rfl, ⟨m1, rfl⟩⟩
            rw [M2.out]
            go_wp2_with fail
            with_reducible refine (char_ (HB.out.below ?e30) (z + 3) (by omega) (by omega)).mono ?_
            case e30 => exact (by repeat (first | exact HBW.out | apply pw_below_drewN))
            rintro e w1 ⟨rfl, ⟨m1, rfl⟩⟩
            go_wp2_with fail
            with_reducible refine (litTrue q ad c L z 3 _ (HG.out.below ?c31) (HB.out.below ?d31) hz00 HM.out).mono ?_
            case c31 => exact (by repeat (first | exact HBW.out | apply pw_below_drewN))
            case d31 => exact (by repeat (first | exact HBW.out | apply pw_below_drewN))
            rintro e w2 ⟨v2, rfl, hv, hb⟩
            have HV := Aside0.mk hv
            have HB2 := Aside0.mk (show Below w0.heap.size w0 w2 from below_step (by repeat (first | exact HBW.out | apply pw_below_drewN)) hb)
            clear hv hb
            go_wp2_with fail
            exact HR.out _ _ ⟨rfl, HB2.out, .inr ⟨_, v2, HF.out, HV.out, rfl, rfl⟩⟩
          have M3 := Aside0.mk m3
          have hlt3 : z + 3 + 1 < L.length := by have := HT.out.inside (x := z + 3) (by omega) (by omega) (by omega); omega
          clear m3
          have HEND := Aside0.mk (show out q L (.word lTrue 1) st (z + 1) = contO q L st (z + 4) by
            rw [(word_next (q := q) (st := st) (l := lTrue) (k := 1) HT.out (x := z + 1) (by omega) (by omega) (by decide) M1.out (by decide)).1, show z + 1 + 1 = z + 2 by omega]
            rw [(word_next (q := q) (st := st) (l := lTrue) (k := 2) HT.out (x := z + 2) (by omega) (by omega) (by decide) M2.out (by decide)).1, show z + 2 + 1 = z + 3 by omega]
            rw [(word_last (q := q) (st := st) (l := lTrue) (k := 3) HT.out (x := z + 3) (by omega) (by omega) (by decide) M3.out (by decide)).1]
            rw [show z + 3 + 1 = z + 4 by omega])
          go_wp2_with fail
          with_reducible refine (char_ (HB.out.below ?e32) (z + 1) (by omega) (by omega)).mono ?_
          case e32 => exact (by repeat (first | exact HBW.out | apply pw_below_drewN))
          rintro e w1 ⟨rfl, ⟨m1, rfl⟩⟩
          rw [M1.out]
          go_wp2_with fail
          with_reducible refine (char_ (HB.out.below ?e33) (z + 2) (by omega) (by omega)).mono ?_
          case e33 => exact (by repeat (first | exact HBW.out | apply pw_below_drewN))
          rintro e w1 ⟨rfl, ⟨m1, rfl⟩⟩
          rw [M2.out]
          go_wp2_with fail
          with_reducible refine (char_ (HB.out.below ?e34) (z + 3) (by omega) (by omega)).mono ?_
          case e34 => exact (by repeat (first | exact HBW.out | apply pw_below_drewN))
          rintro e w1 ⟨rfl, ⟨m1, rfl⟩⟩
          rw [M3.out]
          go_wp2_with fail
          refine HKK.out _ _ ⟨⟨rfl, rfl, rfl, rfl, rfl, rfl, (by repeat (first | exact HBW.out | apply pw_below_drewN))⟩, z + 4, lev, obj, _, _, rfl, rfl, rfl, rfl, (HROW.out.below (pw_below_drewN (Below.refl _ _) _)), by omega, by omega, by omega, HREP.out, hdl, ?_⟩
          exact HEND.out.symm.trans (HV.out.symm.trans HO.out)
      by_cases cc : rd L z = 102
      · as_aux_lemma =>
          obtain ⟨hv, hy2⟩ := val_f (q := q) (st := st) HT.out hz00 hz1 cc
          have HCC := Aside0.mk cc
          have HV := Aside0.mk hv
          rw [cc]
          clear cc hv
          by_cases m1 : rd L (z + 1) = 97
          rotate_left
          · have HM := Aside0.mk (show Mis L z lFalse 1 from ⟨by decide, by decide, by omega, fun j h1 h2 => by
              obtain h := (show False by omega)
              exact h.elim, m1⟩)
            have f1 : (rd L (z + 1) == 97) = false := beq_eq_false_iff_ne.mpr m1
            have f2 : (rd L (z + 1) != 97) = true := bne_iff_ne.mpr m1
            have HF := Aside0.mk (HO.out.symm.trans (mis_false (q := q) (st := st) HT.out hz00 hz1 HCC.out HM.out))
            clear m1
            go_wp2_with fail
            with_reducible refine (char_ (HB.out.below ?e35) (z + 1) (by omega) (by omega)).mono ?_
            case e35 => exact (by repeat (first | exact HBW.out | apply pw_below_drewN))
            rintro e w1 ⟨rfl, ⟨m1, rfl⟩⟩
            go_wp2_with fail
            with_reducible refine (litFalse q ad c L z 1 _ (HG.out.below ?c36) (HB.out.below ?d36) hz00 HM.out).mono ?_
            case c36 => exact (by repeat (first | exact HBW.out | apply pw_below_drewN))
            case d36 => exact (by repeat (first | exact HBW.out | apply pw_below_drewN))
            rintro e w2 ⟨v2, rfl, hv, hb⟩
            have HV := Aside0.mk hv
            have HB2 := Aside0.mk (show Below w0.heap.size w0 w2 from below_step (by repeat (first | exact HBW.out | apply pw_below_drewN)) hb)
            clear hv hb
            go_wp2_with fail
            exact HR.out _ _ ⟨rfl, HB2.out, .inr ⟨_, v2, HF.out, HV.out, rfl, rfl⟩⟩
          have M1 := Aside0.mk m1
          have hlt1 : z + 1 + 1 < L.length := by have := HT.out.inside (x := z + 1) (by omega) (by omega) (by omega); omega
          clear m1
          by_cases m2 : rd L (z + 2) = 108
          rotate_left
          · have HM := Aside0.mk (show Mis L z lFalse 2 from ⟨by decide, by decide, by omega, fun j h1 h2 => by
              obtain rfl := (show j = 1 by omega)
              all_goals first | exact M1.out, m2⟩)
            have f1 : (rd L (z + 2) == 108) = false := beq_eq_false_iff_ne.mpr m2
            have f2 : (rd L (z + 2) != 108) = true := bne_iff_ne.mpr m2
            have HF := Aside0.mk (HO.out.symm.trans (mis_false (q := q) (st := st) HT.out hz00 hz1 HCC.out HM.out))
            clear m2
            go_wp2_with fail
            with_reducible refine (char_ (HB.out.below ?e37) (z + 1) (by omega) (by omega)).mono ?_
            case e37 => exact (by repeat (first | exact HBW.out | apply pw_below_drewN))
            rintro e w1 ⟨rfl, ⟨m1, rfl⟩⟩
            rw [M1.out]
            go_wp2_with fail
            with_reducible refine (char_ (HB.out.below ?e38) (z + 2) (by omega) (by omega)).mono ?_
            case e38 => exact (by repeat (first | exact HBW.out | apply pw_below_drewN))
            rintro e w1 ⟨rfl, ⟨m1, rfl⟩⟩
            go_wp2_with fail
            with_reducible refine (litFalse q ad c L z 2 _ (HG.out.below ?c39) (HB.out.below ?d39) hz00 HM.out).mono ?_
            case c39 => exact (by repeat (first | exact HBW.out | apply pw_below_drewN))
            case d39 => exact (by repeat (first | exact HBW.out | apply pw_below_drewN))
            rintro e w2 ⟨v2, rfl, hv, hb⟩
            have HV := Aside0.mk hv
            have HB2 := Aside0.mk (show Below w0.heap.size w0 w2 from below_step (by repeat (first | exact HBW.out | apply pw_below_drewN)) hb)
            clear hv hb
            go_wp2_with fail
            exact HR.out _ _ ⟨rfl, HB2.out, .inr ⟨_, v2, HF.out, HV.out, rfl, rfl⟩⟩
          have M2 := Aside0.mk m2
          have hlt2 : z + 2 + 1 < L.length := by have := HT.out.inside (x := z + 2) (by omega) (by omega) (by omega); omega
          clear m2
          by_cases m3 : rd L (z + 3) = 115
          rotate_left
          · have HM := Aside0.mk (show Mis L z lFalse 3 from ⟨by decide, by decide, by omega, fun j h1 h2 => by
              obtain rfl | rfl := (show j = 1 ∨ j = 2 by omega)
              all_goals first | exact M1.out | exact M2.out, m3⟩)
            have f1 : (rd L (z + 3) == 115) = false := beq_eq_false_iff_ne.mpr m3
            have f2 : (rd L (z + 3) != 115) = true := bne_iff_ne.mpr m3
            have HF := Aside0.mk (HO.out.symm.trans (mis_false (q := q) (st := st) HT.out hz00 hz1 HCC.out HM.out))
            clear m3
            go_wp2_with fail
            with_reducible refine (char_ (HB.out.below ?e40) (z + 1) (by omega) (by omega)).mono ?_
            case e40 => exact (by repeat (first | exact HBW.out | apply pw_below_drewN))
            rintro e w1 ⟨rfl, ⟨m1, rfl⟩⟩
            rw [M1.out]
            go_wp2_with fail
            with_reducible refine (char_ (HB.out.below ?e41) (z + 2) (by omega) (by omega)).mono ?_
            case e41 => exact (by repeat (first | exact HBW.out | apply pw_below_drewN))
            rintro e w1 ⟨rfl, ⟨m1, rfl⟩⟩
            rw [M2.out]
            go_wp2_with fail
            with_reducible refine (char_ (HB.out.below ?e42) (z + 3) (by omega) (by omega)).mono ?_
            case e42 => exact (by repeat (first | exact HBW.out | apply pw_below_drewN))
            rintro e w1 ⟨rfl, ⟨m1, rfl⟩⟩
            go_wp2_with fail
            with_reducible refine (litFalse q ad c L z 3 _ (HG.out.below ?c43) (HB.out.below ?d43) hz00 HM.out).mono ?_
            case c43 => exact (by repeat (first | exact HBW.out | apply pw_below_drewN))
            case d43 => exact (by repeat (first | exact HBW.out | apply pw_below_drewN))
            rintro e w2 ⟨v2, rfl, hv, hb⟩
            have HV := Aside0.mk hv
            have HB2 := Aside0.mk (show Below w0.heap.size w0 w2 from below_step (by repeat (first | exact HBW.out | apply pw_below_drewN)) hb)
            clear hv hb
            go_wp2_with fail
            exact HR.out _ _ ⟨rfl, HB2.out, .inr ⟨_, v2, HF.out, HV.out, rfl, rfl⟩⟩
          have M3 := Aside0.mk m3
          have hlt3 : z + 3 + 1 < L.length := by have := HT.out.inside (x := z + 3) (by omega) (by omega) (by omega); omega
          clear m3
          by_cases m4 : rd L (z + 4) = 101
          rotate_left
          · have HM := Aside0.mk (show Mis L z lFalse 4 from ⟨by decide, by decide, by omega, fun j h1 h2 => by
              obtain rfl | rfl | rfl := (show j = 1 ∨ j = 2 ∨ j = 3 by omega)
              all_goals first | exact M1.out | exact M2.out | exact M3.out, m4⟩)
            have f1 : (rd L (z + 4) == 101) = false := beq_eq_false_iff_ne.mpr m4
            have f2 : (rd L (z + 4) != 101) = true := bne_iff_ne.mpr m4
            have HF := Aside0.mk (HO.out.symm.trans (mis_false (q := q) (st := st) HT.out hz00 hz1 HCC.out HM.out))
            clear m4
            go_wp2_with fail
            with_reducible refine (char_ (HB.out.below ?e44) (z + 1) (by omega) (by omega)).mono ?_
            case e44 => exact (by repeat (first | exact HBW.out | apply pw_below_drewN))
            rintro e w1 ⟨rfl, ⟨m1, rfl⟩⟩
            rw [M1.out]
            go_wp2_with fail
            with_reducible refine (char_ (HB.out.below ?e45) (z + 2) (by omega) (by omega)).mono ?_
            case e45 => exact (by repeat (first | exact HBW.out | apply pw_below_drewN))
            rintro e w1 ⟨rfl, ⟨m1, rfl⟩⟩
            rw [M2.out]
            go_wp2_with fail
            with_reducible refine (char_ (HB.out.below ?e46) (z + 3) (by omega) (by omega)).mono ?_
            case e46 => exact (by repeat (first | exact HBW.out | apply pw_below_drewN))
            rintro e w1 ⟨rfl, ⟨m1, rfl⟩⟩
            rw [M3.out]
            go_wp2_with fail
            with_reducible refine (char_ (HB.out.below ?e47) (z + 4) (by omega) (by omega)).mono ?_
            case e47 => exact (by repeat (first | exact HBW.out | apply pw_below_drewN))
            rintro e w1 ⟨rfl, ⟨m1, rfl⟩⟩
            go_wp2_with fail
            with_reducible refine (litFalse q ad c L z 4 _ (HG.out.below ?c48) (HB.out.below ?d48) hz00 HM.out).mono ?_
            case c48 => exact (by repeat (first | exact HBW.out | apply pw_below_drewN))
            case d48 => exact (by repeat (first | exact HBW.out | apply pw_below_drewN))
            rintro e w2 ⟨v2, rfl, hv, hb⟩
            have HV := Aside0.mk hv
            have HB2 := Aside0.mk (show Below w0.heap.size w0 w2 from below_step (by repeat (first | exact HBW.out | apply pw_below_drewN)) hb)
            clear hv hb
            go_wp2_with fail
            exact HR.out _ _ ⟨rfl, HB2.out, .inr ⟨_, v2, HF.out, HV.out, rfl, rfl⟩⟩
          have M4 := Aside0.mk m4
          have hlt4 : z + 4 + 1 < L.length := by have := HT.out.inside (x := z + 4) (by omega) (by omega) (by omega); omega
          clear m4
          have HEND := Aside0.mk (show out q L (.word lFalse 1) st (z + 1) = contO q L st (z + 5) by
            rw [(word_next (q := q) (st := st) (l := lFalse) (k := 1) HT.out (x := z + 1) (by omega) (by omega) (by decide) M1.out (by decide)).1, show z + 1 + 1 = z + 2 by omega]
            rw [(word_next (q := q) (st := st) (l := lFalse) (k := 2) HT.out (x := z + 2) (by omega) (by omega) (by decide) M2.out (by decide)).1, show z + 2 + 1 = z + 3 by omega]
            rw [(word_next (q := q) (st := st) (l := lFalse) (k := 3) HT.out (x := z + 3) (by omega) (by omega) (by decide) M3.out (by decide)).1, show z + 3 + 1 = z + 4 by omega]
            rw [(word_last (q := q) (st := st) (l := lFalse) (k := 4) HT.out (x := z + 4) (by omega) (by omega) (by decide) M4.out (by decide)).1]
            rw [show z + 4 + 1 = z + 5 by omega])
          go_wp2_with fail
          with_reducible refine (char_ (HB.out.below ?e49) (z + 1) (by omega) (by omega)).mono ?_
          case e49 => exact (by repeat (first | exact HBW.out | apply pw_below_drewN))
          rintro e w1 ⟨rfl, ⟨m1, rfl⟩⟩
          rw [M1.out]
          go_wp2_with fail
          with_reducible refine (char_ (HB.out.below ?e50) (z + 2) (by omega) (by omega)).mono ?_
          case e50 => exact (by repeat (first | exact HBW.out | apply pw_below_drewN))
          rintro e w1 ⟨rfl, ⟨m1, rfl⟩⟩
          rw [M2.out]
          go_wp2_with fail
          with_reducible refine (char_ (HB.out.below ?e51) (z + 3) (by omega) (by omega)).mono ?_
          case e51 => exact (by repeat (first | exact HBW.out | apply pw_below_drewN))
          rintro e w1 ⟨rfl, ⟨m1, rfl⟩⟩
          rw [M3.out]
          go_wp2_with fail
          with_reducible refine (char_ (HB.out.below ?e52) (z + 4) (by omega) (by omega)).mono ?_
          case e52 => exact (by repeat (first | exact HBW.out | apply pw_below_drewN))
          rintro e w1 ⟨rfl, ⟨m1, rfl⟩⟩
          rw [M4.out]
          go_wp2_with fail
          refine HKK.out _ _ ⟨⟨rfl, rfl, rfl, rfl, rfl, rfl, (by repeat (first | exact HBW.out | apply pw_below_drewN))⟩, z + 5, lev, obj, _, _, rfl, rfl, rfl, rfl, (HROW.out.below (pw_below_drewN (Below.refl _ _) _)), by omega, by omega, by omega, HREP.out, hdl, ?_⟩
          exact HEND.out.symm.trans (HV.out.symm.trans HO.out)
      by_cases cc : rd L z = 110
      · as_aux_lemma =>
          obtain ⟨hv, hy2⟩ := val_n (q := q) (st := st) HT.out hz00 hz1 cc
          have HCC := Aside0.mk cc
          have HV := Aside0.mk hv
          rw [cc]
          clear cc hv
          by_cases m1 : rd L (z + 1) = 117
          rotate_left
          · have HM := Aside0.mk (show Mis L z lNull 1 from ⟨by decide, by decide, by omega, fun j h1 h2 => by
              obtain h := (show False by omega)
              exact h.elim, m1⟩)
            have f1 : (rd L (z + 1) == 117) = false := beq_eq_false_iff_ne.mpr m1
            have f2 : (rd L (z + 1) != 117) = true := bne_iff_ne.mpr m1
            have HF := Aside0.mk (HO.out.symm.trans (mis_null (q := q) (st := st) HT.out hz00 hz1 HCC.out HM.out))
            clear m1
            go_wp2_with fail
            with_reducible refine (char_ (HB.out.below ?e53) (z + 1) (by omega) (by omega)).mono ?_
            case e53 => exact (by repeat (first | exact HBW.out | apply pw_below_drewN))
            rintro e w1 ⟨rfl, ⟨m1, rfl⟩⟩
            go_wp2_with fail
            with_reducible refine (litNull q ad c L z 1 _ (HG.out.below ?c54) (HB.out.below ?d54) hz00 HM.out).mono ?_
            case c54 => exact (by repeat (first | exact HBW.out | apply pw_below_drewN))
            case d54 => exact (by repeat (first | exact HBW.out | apply pw_below_drewN))
            rintro e w2 ⟨v2, rfl, hv, hb⟩
            have HV := Aside0.mk hv
            have HB2 := Aside0.mk (show Below w0.heap.size w0 w2 from below_step (by repeat (first | exact HBW.out | apply pw_below_drewN)) hb)
            clear hv hb
            go_wp2_with fail
            exact HR.out _ _ ⟨rfl, HB2.out, .inr ⟨_, v2, HF.out, HV.out, rfl, rfl⟩⟩
          have M1 := Aside0.mk m1
          have hlt1 : z + 1 + 1 < L.length := by have := HT.out.inside (x := z + 1) (by omega) (by omega) (by omega); omega
          clear m1
          by_cases m2 : rd L (z + 2) = 108
          rotate_left
          · have HM := Aside0.mk (show Mis L z lNull 2 from ⟨by decide, by decide, by omega, fun j h1 h2 => by
              obtain rfl := (show j = 1 by omega)
              all_goals first | exact M1.out, m2⟩)
            have f1 : (rd L (z + 2) == 108) = false := beq_eq_false_iff_ne.mpr m2
            have f2 : (rd L (z + 2) != 108) = true := bne_iff_ne.mpr m2
            have HF := Aside0.mk (HO.out.symm.trans (mis_null (q := q) (st := st) HT.out hz00 hz1 HCC.out HM.out))
            clear m2
            go_wp2_with fail
            with_reducible refine (char_ (HB.out.below ?e55) (z + 1) (by omega) (by omega)).mono ?_
            case e55 => exact (by repeat (first | exact HBW.out | apply pw_below_drewN))
            rintro e w1 ⟨rfl, ⟨m1, rfl⟩⟩
            rw [M1.out]
            go_wp2_with fail
            with_reducible refine (char_ (HB.out.below ?e56) (z + 2) (by omega) (by omega)).mono ?_
            case e56 => exact (by repeat (first | exact HBW.out | apply pw_below_drewN))
            rintro e w1 ⟨rfl, ⟨m1, rfl⟩⟩
            go_wp2_with fail
            with_reducible refine (litNull q ad c L z 2 _ (HG.out.below ?c57) (HB.out.below ?d57) hz00 HM.out).mono ?_
            case c57 => exact (by repeat (first | exact HBW.out | apply pw_below_drewN))
            case d57 => exact (by repeat (first | exact HBW.out | apply pw_below_drewN))
            rintro e w2 ⟨v2, rfl, hv, hb⟩
            have HV := Aside0.mk hv
            have HB2 := Aside0.mk (show Below w0.heap.size w0 w2 from below_step (by repeat (first | exact HBW.out | apply pw_below_drewN)) hb)
            clear hv hb
            go_wp2_with fail
            exact HR.out _ _ ⟨rfl, HB2.out, .inr ⟨_, v2, HF.out, HV.out, rfl, rfl⟩⟩
          have M2 := Aside0.mk m2
          have hlt2 : z + 2 + 1 < L.length := by have := HT.out.inside (x := z + 2) (by omega) (by omega) (by omega); omega
          clear m2
          by_cases m3 : rd L (z + 3) = 108
          rotate_left
          · have HM := Aside0.mk (show Mis L z lNull 3 from ⟨by decide, by decide, by omega, fun j h1 h2 => by
              obtain rfl | rfl := (show j = 1 ∨ j = 2 by omega)
              all_goals first | exact M1.out | exact M2.out, m3⟩)
            have f1 : (rd L (z + 3) == 108) = false := beq_eq_false_iff_ne.mpr m3
            have f2 : (rd L (z + 3) != 108) = true := bne_iff_ne.mpr m3
            have HF := Aside0.mk (HO.out.symm.trans (mis_null (q := q) (st := st) HT.out hz00 hz1 HCC.out HM.out))
            clear m3
            go_wp2_with fail
            with_reducible refine (char_ (HB.out.below ?e58) (z + 1) (by omega) (by omega)).mono ?_
            case e58 => exact (by repeat (first | exact HBW.out | apply pw_below_drewN))
            rintro e w1 ⟨rfl, ⟨m1, rfl⟩⟩
            rw [M1.out]
            go_wp2_with fail
            with_reducible refine (char_ (HB.out.below ?e59) (z + 2) (by omega) (by omega)).mono ?_
            case e59 => exact (by repeat (first | exact HBW.out | apply pw_below_drewN))
            rintro e w1 ⟨rfl, ⟨m1, rfl⟩⟩
            rw [M2.out]
            go_wp2_with fail
            with_reducible refine (char_ (HB.out.below ?e60) (z + 3) (by omega) (by omega)).mono ?_
            case e60 => exact (by repeat (first | exact HBW.out | apply pw_below_drewN))
            rintro e w1 ⟨rfl, ⟨m1, rfl⟩⟩
            go_wp2_with fail
            with_reducible refine (litNull q ad c L z 3 _ (HG.out.below ?c61) (HB.out.below ?d61) hz00 HM.out).mono ?_
            case c61 => exact (by repeat (first | exact HBW.out | apply pw_below_drewN))
            case d61 => exact (by repeat (first | exact HBW.out | apply pw_below_drewN))
            rintro e w2 ⟨v2, rfl, hv, hb⟩
            have HV := Aside0.mk hv
            have HB2 := Aside0.mk (show Below w0.heap.size w0 w2 from below_step (by repeat (first | exact HBW.out | apply pw_below_drewN)) hb)
            clear hv hb
            go_wp2_with fail
            exact HR.out _ _ ⟨rfl, HB2.out, .inr ⟨_, v2, HF.out, HV.out, rfl, rfl⟩⟩
          have M3 := Aside0.mk m3
          have hlt3 : z + 3 + 1 < L.length := by have := HT.out.inside (x := z + 3) (by omega) (by omega) (by omega); omega
          clear m3
          have HEND := Aside0.mk (show out q L (.word lNull 1) st (z + 1) = contO q L st (z + 4) by
            rw [(word_next (q := q) (st := st) (l := lNull) (k := 1) HT.out (x := z + 1) (by omega) (by omega) (by decide) M1.out (by decide)).1, show z + 1 + 1 = z + 2 by omega]
            rw [(word_next (q := q) (st := st) (l := lNull) (k := 2) HT.out (x := z + 2) (by omega) (by omega) (by decide) M2.out (by decide)).1, show z + 2 + 1 = z + 3 by omega]
            rw [(word_last (q := q) (st := st) (l := lNull) (k := 3) HT.out (x := z + 3) (by omega) (by omega) (by decide) M3.out (by decide)).1]
            rw [show z + 3 + 1 = z + 4 by omega])
          go_wp2_with fail
          with_reducible refine (char_ (HB.out.below ?e62) (z + 1) (by omega) (by omega)).mono ?_
          case e62 => exact (by repeat (first | exact HBW.out | apply pw_below_drewN))
          rintro e w1 ⟨rfl, ⟨m1, rfl⟩⟩
          rw [M1.out]
          go_wp2_with fail
          with_reducible refine (char_ (HB.out.below ?e63) (z + 2) (by omega) (by omega)).mono ?_
          case e63 => exact (by repeat (first | exact HBW.out | apply pw_below_drewN))
          rintro e w1 ⟨rfl, ⟨m1, rfl⟩⟩
          rw [M2.out]
          go_wp2_with fail
          with_reducible refine (char_ (HB.out.below ?e64) (z + 3) (by omega) (by omega)).mono ?_
          case e64 => exact (by repeat (first | exact HBW.out | apply pw_below_drewN))
          rintro e w1 ⟨rfl, ⟨m1, rfl⟩⟩
          rw [M3.out]
          go_wp2_with fail
          refine HKK.out _ _ ⟨⟨rfl, rfl, rfl, rfl, rfl, rfl, (by repeat (first | exact HBW.out | apply pw_below_drewN))⟩, z + 4, lev, obj, _, _, rfl, rfl, rfl, rfl, (HROW.out.below (pw_below_drewN (Below.refl _ _) _)), by omega, by omega, by omega, HREP.out, hdl, ?_⟩
          exact HEND.out.symm.trans (HV.out.symm.trans HO.out)
      have HBD := Aside0.mk (HO.out.symm.trans (val_bad (q := q) (st := st) HT.out hz00 hz1 HNB.out (by omega) (by omega) (by omega) (by omega) (by unfold isDig; omega) (by omega) (by omega) (by omega)))
      have d123 : (rd L z == 123) = false := beq_eq_false_iff_ne.mpr (by omega)
      have d91 : (rd L z == 91) = false := beq_eq_false_iff_ne.mpr (by omega)
      have d34 : (rd L z == 34) = false := beq_eq_false_iff_ne.mpr (by omega)
      have d48 : (rd L z == 48) = false := beq_eq_false_iff_ne.mpr (by omega)
      have d49 : (rd L z == 49) = false := beq_eq_false_iff_ne.mpr (by omega)
      have d50 : (rd L z == 50) = false := beq_eq_false_iff_ne.mpr (by omega)
      have d51 : (rd L z == 51) = false := beq_eq_false_iff_ne.mpr (by omega)
      have d52 : (rd L z == 52) = false := beq_eq_false_iff_ne.mpr (by omega)
      have d53 : (rd L z == 53) = false := beq_eq_false_iff_ne.mpr (by omega)
      have d54 : (rd L z == 54) = false := beq_eq_false_iff_ne.mpr (by omega)
      have d55 : (rd L z == 55) = false := beq_eq_false_iff_ne.mpr (by omega)
      have d56 : (rd L z == 56) = false := beq_eq_false_iff_ne.mpr (by omega)
      have d57 : (rd L z == 57) = false := beq_eq_false_iff_ne.mpr (by omega)
      have d45 : (rd L z == 45) = false := beq_eq_false_iff_ne.mpr (by omega)
      have d116 : (rd L z == 116) = false := beq_eq_false_iff_ne.mpr (by omega)
      have d102 : (rd L z == 102) = false := beq_eq_false_iff_ne.mpr (by omega)
      have d110 : (rd L z == 110) = false := beq_eq_false_iff_ne.mpr (by omega)
      go_wp2_with fail
      with_reducible refine (syntaxErrorAt q ad c L (z) 0 _ (HG.out.below ?c65) (HB.out.below ?d65) (by omega) (by omega)).mono ?_
      case c65 => exact (by repeat (first | exact HBW.out | apply pw_below_drewN))
      case d65 => exact (by repeat (first | exact HBW.out | apply pw_below_drewN))
      rintro e w2 ⟨v2, rfl, hv, hb⟩
      have HV := Aside0.mk hv
      have HB2 := Aside0.mk (show Below w0.heap.size w0 w2 from below_step (by repeat (first | exact HBW.out | apply pw_below_drewN)) hb)
      clear hv hb
      go_wp2_with fail
      exact HR.out _ _ ⟨rfl, HB2.out, .inr ⟨_, v2, HBD.out, HV.out, rfl, rfl⟩⟩
end Go.Proofs.YtfkagnpdapkaaaaDoor.Err
