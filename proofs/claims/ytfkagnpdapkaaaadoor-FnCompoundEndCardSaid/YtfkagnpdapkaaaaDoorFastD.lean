/- skipFast from a value. -/
import Derived.Test.YtfkagnpdapkaaaaDoorFastC
import Derived.Test.YtfkagnpdapkaaaaDoorScC
namespace Go.Proofs.YtfkagnpdapkaaaaDoor.Err
open Go.RowKit Go.Proofs.YtfkagnpdapkaaaaDoorW.PrintWords Go.Proofs.YtfkagnpdapkaaaaDoorW.PrintLast Go.Proofs.YtfkagnpdapkaaaaDoorW.PrintMore
open Go.Proofs.YtfkagnpdapkaaaaDoor.Tab Go.Proofs.YtfkagnpdapkaaaaDoor.QF
set_option linter.unusedVariables false
theorem contO_out {q : ByteArray → ByteArray} {L : List Int} {st : List Br} (h : st ≠ []) (z : Int) : contO q L st z = out q L (closed st).1 (closed st).2 z := by
  unfold contO
  rw [if_neg (by rw [closed_all st h]; decide)]
set_option maxRecDepth 100000 in
set_option maxHeartbeats 8000000 in
theorem pass2 (q : ByteArray → ByteArray) (ad : Addr) (c : Nat) (L : List Int) (mx K X0 : Int) (O : Out) (w0 : World) (hX0 : 0 ≤ X0) (hB : Buf w0 ad c L) (hGL : Glob w0) (hmx : mx ≤ 64) (Y : Code) (hY : findLabel (scopeOf Tryd.f114) 2 = some (Code.skip.seq Y)) (n : Nat) (a : Act) (w : World) (Q : Exit → Act → World → Prop)
    (hJ : JS q ad c L mx K X0 O w0 n 2 a w) (hQ : ∀ l a' w', (∃ n', n' < n ∧ JS q ad c L mx K X0 O w0 n' l a' w') → Q (.goto l) a' w') (hR : ∀ a' w', RS q L mx K X0 O w0 a' w' → Q .ret a' w') : Y.wp Tryd.prog Q a w := by
  have e : some (Code.skip.seq _) = some (Code.skip.seq Y) := hY
  cases e
  clear hY
  obtain ⟨f, x, lev, obj, cb, m, rfl, rfl, st, hxx, hx1, hk, hrep, hn, hlab⟩ := ms_open hJ
  clear hJ
  have hx0 : 0 ≤ x := by omega
  have HQ := Aside0.mk hQ
  have HR := Aside0.mk hR
  have HREP := Aside0.mk hrep
  have HL := Aside0.mk hlab
  have HN := Aside0.mk hn
  have HGL := Aside0.mk hGL
  clear hGL
  have HT := Aside0.mk hB.txt
  have HB := Aside0.mk hB
  have hsm := hB.small
  clear hQ hR hrep hlab hB hn
  obtain ⟨hO, hst⟩ := HL.out
  refine wp_cut (MS ad c L mx w0 fun y lev' obj' cb' => lev = lev' ∧ obj = obj' ∧ rd L y = cb' ∧ RunTo isBlank L x y) ?_ ?_
  · intro KK hKK
    have HKK := Aside0.mk hKK
    clear hKK
    go_wp2_with fail
    with_reducible refine (char_ (HB.out.below ?b) x (by omega) (by omega)).mono ?_
    case b => exact (by repeat (first | exact Below.refl _ _ | exact HBW.out | apply pw_below_drewN))
    rintro e w1 ⟨rfl, ⟨m1, rfl⟩⟩
    by_cases c1 : rd L x ≤ 32
    · go_wp2_with fail
      go_loopg [1, 19] (L.length) (fun kq v1 v19 w' => ∃ (y : Int), v1 = .int .i64 y ∧ v19 = .int .u8 (rd L y) ∧ Aside0 (x ≤ y ∧ y < L.length ∧ (∀ k, x ≤ k → k < y → isBlank (rd L k)) ∧ (L.length : Int) ≤ y + kq) ∧ Drawn0 w0 w')
      case atStart => exact ⟨x, rfl, rfl, ⟨Int.le_refl _, by omega, fun k h1 h2 => by omega, by omega⟩, by repeat (first | exact Drawn0.refl _ | apply Drawn0.step)⟩
      case round =>
        obtain ⟨y, rfl, rfl, HA, ⟨m2, rfl⟩⟩ := hrel
        obtain ⟨hy0, hy1, hy2, hy3⟩ := HA.out
        clear HA
        have HY2 := Aside0.mk hy2
        clear hy2
        by_cases cb : isBlank (rd L y)
        · have hin := HT.out.inside (x := y) (by omega) hy1 (by unfold isBlank at cb; omega)
          have hcall := fun W => white (rd L y) W
          rw [decide_eq_true cb] at hcall
          have HC := Aside0.mk hcall
          have HCB := Aside0.mk cb
          clear cb hcall
          obtain _ | g0 := gk
          · exfalso; omega
          go_wp2_with fail
          with_reducible refine (HC.out _).mono ?_
          rintro e w2 ⟨rfl, ⟨m3, rfl⟩⟩
          go_wp2_with fail
          with_reducible refine (char_ (HB.out.below ?b) (y + 1) (by omega) (by omega)).mono ?_
          case b => exact (by repeat (first | exact Below.refl _ _ | exact HBW.out | apply pw_below_drewN))
          rintro e w2 ⟨rfl, ⟨m4, rfl⟩⟩
          go_wp2_with fail
          go_roundg g0
          case measure => omega
          case rel => exact ⟨y + 1, rfl, rfl, ⟨by omega, by omega, fun k h1 h2 => if hk : k = y then by rw [hk]; exact HCB.out else HY2.out k h1 (by omega), by omega⟩, by repeat (first | exact Drawn0.refl _ | apply Drawn0.step)⟩
        · have hcall := fun W => white (rd L y) W
          rw [decide_eq_false cb] at hcall
          have HC := Aside0.mk hcall
          have HCB := Aside0.mk cb
          clear cb hcall
          go_wp2_with fail
          with_reducible refine (HC.out _).mono ?_
          rintro e w2 ⟨rfl, ⟨m3, rfl⟩⟩
          go_wp2_with fail
          exact HKK.out _ _ ⟨⟨rfl, rfl, rfl, rfl, rfl, rfl, by repeat (first | exact Drawn0.refl _ | apply Drawn0.step)⟩, y, lev, obj, (rd L y), rfl, rfl, rfl, rfl, rfl, rfl, rfl, ⟨hy0, hy1, HY2.out, HCB.out⟩⟩
    · have HNB := Aside0.mk (show ¬ isBlank (rd L x) by unfold isBlank; omega)
      go_wp2_with fail
      exact HKK.out _ _ ⟨⟨rfl, rfl, rfl, rfl, rfl, rfl, by repeat (first | exact Drawn0.refl _ | apply Drawn0.step)⟩, x, lev, obj, (rd L x), rfl, rfl, rfl, rfl, rfl, rfl, rfl, ⟨Int.le_refl _, by omega, fun k h1 h2 => by omega, HNB.out⟩⟩
  intro a w hM
  obtain ⟨f, y, lev', obj', cb, m, rfl, rfl, hle, hoe, hcb, hrun⟩ := ms_open hM
  subst hle hoe hcb
  have hyl := hrun.le
  have hy1 := hrun.lt
  have HRUN := Aside0.mk hrun
  clear hM hrun
  have HO := Aside0.mk ((ws_out (q := q) (ph := .val) HT.out rfl hx0 HRUN.out st).symm.trans hO)
  have HNB := Aside0.mk HRUN.out.stop
  have HS := Aside0.mk (show st ≠ [] ∨ rd L y = 123 ∨ rd L y = 91 by
    rcases hst with h | h
    · exact .inl h
    · have h3 : y = x := by
        by_cases h4 : x = y
        · exact h4.symm
        · have := HRUN.out.all x (Int.le_refl _) (by omega)
          unfold isBlank at this
          omega
      rw [h3]
      exact .inr h)
  have HN2 := Aside0.mk (show 2 * (L.length - y) ≤ n by have := HN.out; simp at this; omega)
  have hky : lev - y ≤ K := by omega
  have hy0 : 0 ≤ y := by omega
  have hxy : X0 ≤ y := by omega
  clear hO hst HL HRUN HN hk hx0 hxx hx1 hyl
  refine wp_cut (MS ad c L mx w0 fun y' lev' obj' cb' => y = y' ∧ lev = lev' ∧ obj = obj' ∧ rd L y = cb' ∧ rd L y ≠ 34) ?_ ?_
  · intro KK hKK
    have HKK := Aside0.mk hKK
    clear hKK
    by_cases cq : rd L y = 34
    · obtain ⟨hv, hy2⟩ := val_text (q := q) (st := st) HT.out hy0 hy1 cq
      have HNE := Aside0.mk (show st ≠ [] from by rcases HS.out with h | h | h; exact h; omega; omega)
      have HO2 := Aside0.mk (hv.symm.trans HO.out)
      have HX34 := Aside0.mk cq
      rw [cq]
      clear cq hv HO HNB
      go_wp2_with fail
      go_loopg [1, 20] (L.length) (fun kq v1 v2 w' => ∃ (p : Int), v1 = .int .i64 y ∧ v2 = .int .i64 p ∧ Aside0 (y + 1 ≤ p ∧ p ≤ L.length ∧ (∀ k, y + 1 ≤ k → k < p → Plain (rd L k)) ∧ (L.length : Int) ≤ p + kq) ∧ Drawn0 w0 w')
      case atStart => exact ⟨y + 1, rfl, rfl, ⟨Int.le_refl _, by omega, fun k h1 h2 => by omega, by omega⟩, by repeat (first | exact Drawn0.refl _ | apply Drawn0.step)⟩
      case round =>
        obtain ⟨p, rfl, rfl, HA, ⟨m2, rfl⟩⟩ := hrel
        obtain ⟨hp0, hp1, hp2, hp3⟩ := HA.out
        clear HA
        have HP2 := Aside0.mk hp2
        clear hp2
        by_cases c8 : p + 8 ≤ L.length
        · obtain ⟨W, S, hW, hS, hor⟩ := word_at HT.out p (by omega) c8
          have HW := Aside0.mk hW
          have HS := Aside0.mk hS
          clear hW hS
          rcases hor with ⟨rfl, hpl⟩ | ⟨hS0, j, hj0, hj8, htz, hpl, hsp⟩
          · have HPL := Aside0.mk hpl
            clear hpl
            obtain _ | g0 := gk
            · exfalso; omega
            go_wp2_with fail
            with_reducible refine (gojson_load64.calls (some ad) c L p W _ (HB.out.below ?b).C HB.out.cap HW.out).mono ?_
            case b => exact (by repeat (first | exact Below.refl _ _ | exact HBW.out | apply pw_below_drewN))
            rintro e w2 ⟨rfl, ⟨m3, rfl⟩⟩
            go_wp2_with fail
            with_reducible refine (gojson_keyEndBytes.calls W 0 _ HS.out).mono ?_
            rintro e w2 ⟨rfl, ⟨m4, rfl⟩⟩
            go_wp2_with fail
            go_roundg g0
            case measure => omega
            case rel => exact ⟨p + 8, rfl, rfl, ⟨by omega, c8, fun k h1 h2 => if h : k < p then HP2.out k h1 h else HPL.out k (by omega) h2, by omega⟩, by repeat (first | exact Drawn0.refl _ | apply Drawn0.step)⟩
          · have HPL := Aside0.mk (show ∀ k, y + 1 ≤ k → k < p + j → Plain (rd L k) from fun k h1 h2 => if h : k < p then HP2.out k h1 h else hpl k (by omega) h2)
            have HTZ := Aside0.mk htz
            have HSP := Aside0.mk hsp
            have f0 : (S == 0) = false := beq_eq_false_iff_ne.mpr hS0
            have f00 : (S != 0) = true := bne_iff_ne.mpr hS0
            have hdiv : Int.tdiv (8 * j + 7) 8 = j := by rw [Int.tdiv_eq_ediv_of_nonneg (by omega)]; omega
            have hdiv2 : (8 * j + 7) / 8 = j := by omega
            clear hpl htz hsp HP2 hS0
            go_wp2_with fail
            with_reducible refine (gojson_load64.calls (some ad) c L p W _ (HB.out.below ?b).C HB.out.cap HW.out).mono ?_
            case b => exact (by repeat (first | exact Below.refl _ _ | exact HBW.out | apply pw_below_drewN))
            rintro e w2 ⟨rfl, ⟨m3, rfl⟩⟩
            go_wp2_with fail
            with_reducible refine (gojson_keyEndBytes.calls W S _ HS.out).mono ?_
            rintro e w2 ⟨rfl, ⟨m4, rfl⟩⟩
            go_wp2_with fail
            with_reducible refine (tz64.calls S (8 * j + 7) _ (HGL.out.below ?b) HTZ.out).mono ?_
            case b => exact (by repeat (first | exact Below.refl _ _ | exact HBW.out | apply pw_below_drewN))
            rintro e w2 ⟨rfl, ⟨m5, rfl⟩⟩
            go_wp2_with fail
            with_reducible refine (char_ (HB.out.below ?b) (p + j) (by omega) (by omega)).mono ?_
            case b => exact (by repeat (first | exact Below.refl _ _ | exact HBW.out | apply pw_below_drewN))
            rintro e w2 ⟨rfl, ⟨m6, rfl⟩⟩
            by_cases cq : rd L (p + j) = 34
            · have HQ34 := Aside0.mk cq
              have hin := HT.out.inside (x := p + j) (by omega) (by omega) (by omega)
              rw [cq]
              clear cq
              have HO3 := Aside0.mk (((plain_out (q := q) HT.out (by omega) (by omega) (by omega) HPL.out st).trans (txt_quote HT.out (by omega) (by omega) HQ34.out)).symm.trans HO2.out)
              go_wp2_with fail
              exact wp_goto (HQ.out _ _ _ ⟨(2 * (L.length - (p + j + 1))).toNat, by have := HN2.out; omega, ⟨⟨rfl, rfl, rfl, rfl, rfl, rfl, by repeat (first | exact Drawn0.refl _ | apply Drawn0.step)⟩, p + j + 1, lev, obj, _, rfl, rfl, rfl, rfl, st, by omega, by omega, by omega, HREP.out, by simp; omega, HNE.out, (contO_out HNE.out _).symm.trans HO3.out⟩⟩)
            · have f1 : (rd L (p + j) == 34) = false := beq_eq_false_iff_ne.mpr cq
              clear cq
              go_wp2_with fail
              exact HR.out _ _ ⟨rfl, by repeat (first | exact Drawn0.refl _ | apply Drawn0.step), y, lev, obj, st, 1, 1, rfl, rfl, rfl, rfl, rfl, by omega, by omega, by omega, HREP.out, .inr (.inl ⟨rfl, HX34.out, .inl ⟨rfl, HNE.out, HO2.out.symm⟩⟩)⟩
        · clear HP2
          go_wp2_with fail
          exact HR.out _ _ ⟨rfl, by repeat (first | exact Drawn0.refl _ | apply Drawn0.step), y, lev, obj, st, 1, 1, rfl, rfl, rfl, rfl, rfl, by omega, by omega, by omega, HREP.out, .inr (.inl ⟨rfl, HX34.out, .inl ⟨rfl, HNE.out, HO2.out.symm⟩⟩)⟩
    · have f1 : (rd L y == 34) = false := beq_eq_false_iff_ne.mpr cq
      have HC := Aside0.mk cq
      clear cq
      go_wp2_with fail
      exact HKK.out _ _ ⟨⟨rfl, rfl, rfl, rfl, rfl, rfl, by repeat (first | exact Drawn0.refl _ | apply Drawn0.step)⟩, y, lev, obj, (rd L y), rfl, rfl, rfl, rfl, rfl, rfl, rfl, rfl, HC.out⟩
  intro a w hM
  obtain ⟨f, y', lev', obj', cb', m, rfl, rfl, hyy, hle, hoe, hcb, hc34⟩ := ms_open hM
  subst hyy hle hoe hcb
  clear hM
  refine wp_cut (MS ad c L mx w0 fun z lev' obj' cb' => lev = lev' ∧ obj = obj' ∧ y < z ∧ z < L.length ∧ st ≠ [] ∧ out q L (closed st).1 (closed st).2 z = O) ?_ ?_
  rotate_left
  · intro a w hM
    obtain ⟨hF, z, lev', obj', cb', h1, h2, h3, h4, hle, hoe, hyz, hzl, hne, hz⟩ := hM
    subst hle hoe
    exact wp_seq (wp_label (pass0 q ad c L mx K X0 O w0 hX0 HB.out _ rfl (2 * (L.length - z)).toNat a w Q ⟨hF, z, lev, obj, cb', h1, h2, h3, h4, st, by omega, hzl, by omega, HREP.out, by simp; omega, hne, hz⟩ (fun l a' w' h => by obtain ⟨n', h5, h6⟩ := h; exact HQ.out l a' w' ⟨n', by have := HN2.out; omega, h6⟩) HR.out))
  intro KK hKK
  have HKK := Aside0.mk hKK
  clear hKK
  by_cases cc : rd L y = 123
  · obtain ⟨hv, hy2⟩ := val_obj (q := q) (st := st) HT.out hy0 hy1 cc
    have HO2 := Aside0.mk (hv.symm.trans HO.out)
    have HCC := Aside0.mk cc
    rw [cc]
    clear cc hv
    have hl9 : 0 ≤ lev ∧ lev ≤ 64 := by have h1 := HREP.out.len; have h2 := HREP.out.few; omega
    by_cases cl : lev + 1 > mx
    · go_wp2_with fail
      exact HR.out _ _ ⟨rfl, by repeat (first | exact Drawn0.refl _ | apply Drawn0.step), y, lev, obj, st, 0, 3, rfl, rfl, rfl, rfl, rfl, by omega, by omega, by omega, HREP.out, .inr (.inr (.inr (.inl ⟨rfl, rfl, cl, .inl HCC.out, HO.out.symm⟩)))⟩
    · have hfew : st.length < 64 := by have := HREP.out.len; omega
      have hl0 : 0 ≤ lev ∧ lev < 64 := by have := HREP.out.len; omega
      have HREP2 := Aside0.mk (HREP.out.pushObj hfew)
      clear hfew
      go_wp2_with fail
      with_reducible refine (char_ (HB.out.below ?b) (y + 1) (by omega) (by omega)).mono ?_
      case b => exact (by repeat (first | exact Below.refl _ _ | exact HBW.out | apply pw_below_drewN))
      rintro e w1 ⟨rfl, ⟨m1, rfl⟩⟩
      by_cases c1 : rd L (y + 1) ≤ 32
      · go_wp2_with fail
        go_loopg [1, 19] (L.length) (fun kq v1 v19 w' => ∃ (z : Int), v1 = .int .i64 z ∧ v19 = .int .u8 (rd L z) ∧ Aside0 (y + 1 ≤ z ∧ z < L.length ∧ (∀ k, y + 1 ≤ k → k < z → isBlank (rd L k)) ∧ (L.length : Int) ≤ z + kq) ∧ Drawn0 w0 w')
        case atStart => exact ⟨y + 1, rfl, rfl, ⟨Int.le_refl _, by omega, fun k h1 h2 => by omega, by omega⟩, by repeat (first | exact Drawn0.refl _ | apply Drawn0.step)⟩
        case round =>
          obtain ⟨z, rfl, rfl, HA, ⟨m2, rfl⟩⟩ := hrel
          obtain ⟨hz0, hz1, hz2, hz3⟩ := HA.out
          clear HA
          have HZ2 := Aside0.mk hz2
          clear hz2
          by_cases cbl : isBlank (rd L z)
          · have hin := HT.out.inside (x := z) (by omega) hz1 (by unfold isBlank at cbl; omega)
            have hcall := fun W => white (rd L z) W
            rw [decide_eq_true cbl] at hcall
            have HC := Aside0.mk hcall
            have HCB := Aside0.mk cbl
            clear cbl hcall
            obtain _ | g0 := gk
            · exfalso; omega
            go_wp2_with fail
            with_reducible refine (HC.out _).mono ?_
            rintro e w2 ⟨rfl, ⟨m3, rfl⟩⟩
            go_wp2_with fail
            with_reducible refine (char_ (HB.out.below ?b) (z + 1) (by omega) (by omega)).mono ?_
            case b => exact (by repeat (first | exact Below.refl _ _ | exact HBW.out | apply pw_below_drewN))
            rintro e w2 ⟨rfl, ⟨m4, rfl⟩⟩
            go_wp2_with fail
            go_roundg g0
            case measure => omega
            case rel => exact ⟨z + 1, rfl, rfl, ⟨by omega, by omega, fun k h1 h2 => if hk : k = z then by rw [hk]; exact HCB.out else HZ2.out k h1 (by omega), by omega⟩, by repeat (first | exact Drawn0.refl _ | apply Drawn0.step)⟩
          · have hcall := fun W => white (rd L z) W
            rw [decide_eq_false cbl] at hcall
            have HC := Aside0.mk hcall
            have HZR := Aside0.mk (show RunTo isBlank L (y + 1) z from ⟨hz0, hz1, HZ2.out, cbl⟩)
            clear cbl hcall HZ2
            go_wp2_with fail
            with_reducible refine (HC.out _).mono ?_
            rintro e w2 ⟨rfl, ⟨m3, rfl⟩⟩
            have HO3 := Aside0.mk ((ws_out (q := q) (ph := .name0) HT.out rfl (by omega) HZR.out _).symm.trans HO2.out)
            have hzl := HZR.out.le
            have hz1' := HZR.out.lt
            by_cases ce : rd L z = 125
            · have hin := HT.out.inside (x := z) (by omega) (by omega) (by omega)
              have HO4 := Aside0.mk ((air_shut (q := q) (ph := .name0) (st := .obj :: st) HT.out rfl (by omega) hin (by rw [ce]; rfl)).symm.trans HO3.out)
              have f9 : (rd L z == 125) = true := beq_iff_eq.mpr ce
              clear ce
              go_wp2_with fail
              exact wp_goto (HQ.out _ _ _ ⟨(2 * (L.length - (z + 1)) + 1).toNat, by have := HN2.out; omega, ⟨⟨rfl, rfl, rfl, rfl, rfl, rfl, by repeat (first | exact Drawn0.refl _ | apply Drawn0.step)⟩, (z + 1), lev + 1, _, _, rfl, rfl, rfl, rfl, .obj :: st, by omega, by omega, by omega, HREP2.out, by simp; omega, by simp, HO4.out⟩⟩)
            · have HO4 := Aside0.mk ((name0_name (q := q) (st := .obj :: st) HT.out (by omega) (by omega) HZR.out.stop ce).symm.trans HO3.out)
              have f9 : (rd L z == 125) = false := beq_eq_false_iff_ne.mpr ce
              clear ce
              go_wp2_with fail
              exact wp_goto (HQ.out _ _ _ ⟨(2 * (L.length - z)).toNat, by have := HN2.out; omega, ⟨⟨rfl, rfl, rfl, rfl, rfl, rfl, by repeat (first | exact Drawn0.refl _ | apply Drawn0.step)⟩, z, lev + 1, _, _, rfl, rfl, rfl, rfl, .obj :: st, by omega, by omega, by omega, HREP2.out, by simp; omega, ⟨_, rfl⟩, HO4.out, rfl, HZR.out.stop⟩⟩)
      · have HZR := Aside0.mk (show RunTo isBlank L (y + 1) (y + 1) from ⟨Int.le_refl _, by omega, fun k h1 h2 => by omega, by unfold isBlank; omega⟩)
        have HO3 := Aside0.mk ((ws_out (q := q) (ph := .name0) HT.out rfl (by omega) HZR.out _).symm.trans HO2.out)
        have hzl := HZR.out.le
        have hz1' := HZR.out.lt
        by_cases ce : rd L (y + 1) = 125
        · have hin := HT.out.inside (x := (y + 1)) (by omega) (by omega) (by omega)
          have HO4 := Aside0.mk ((air_shut (q := q) (ph := .name0) (st := .obj :: st) HT.out rfl (by omega) hin (by rw [ce]; rfl)).symm.trans HO3.out)
          have f9 : (rd L (y + 1) == 125) = true := beq_iff_eq.mpr ce
          clear ce
          go_wp2_with fail
          exact wp_goto (HQ.out _ _ _ ⟨(2 * (L.length - ((y + 1) + 1)) + 1).toNat, by have := HN2.out; omega, ⟨⟨rfl, rfl, rfl, rfl, rfl, rfl, by repeat (first | exact Drawn0.refl _ | apply Drawn0.step)⟩, ((y + 1) + 1), lev + 1, _, _, rfl, rfl, rfl, rfl, .obj :: st, by omega, by omega, by omega, HREP2.out, by simp; omega, by simp, HO4.out⟩⟩)
        · have HO4 := Aside0.mk ((name0_name (q := q) (st := .obj :: st) HT.out (by omega) (by omega) HZR.out.stop ce).symm.trans HO3.out)
          have f9 : (rd L (y + 1) == 125) = false := beq_eq_false_iff_ne.mpr ce
          clear ce
          go_wp2_with fail
          exact wp_goto (HQ.out _ _ _ ⟨(2 * (L.length - (y + 1))).toNat, by have := HN2.out; omega, ⟨⟨rfl, rfl, rfl, rfl, rfl, rfl, by repeat (first | exact Drawn0.refl _ | apply Drawn0.step)⟩, (y + 1), lev + 1, _, _, rfl, rfl, rfl, rfl, .obj :: st, by omega, by omega, by omega, HREP2.out, by simp; omega, ⟨_, rfl⟩, HO4.out, rfl, HZR.out.stop⟩⟩)
  by_cases cc : rd L y = 91
  · obtain ⟨hv, hy2⟩ := val_arr (q := q) (st := st) HT.out hy0 hy1 cc
    have HO2 := Aside0.mk (hv.symm.trans HO.out)
    have HCC := Aside0.mk cc
    rw [cc]
    clear cc hv
    have hl9 : 0 ≤ lev ∧ lev ≤ 64 := by have h1 := HREP.out.len; have h2 := HREP.out.few; omega
    by_cases cl : lev + 1 > mx
    · go_wp2_with fail
      exact HR.out _ _ ⟨rfl, by repeat (first | exact Drawn0.refl _ | apply Drawn0.step), y, lev, obj, st, 0, 3, rfl, rfl, rfl, rfl, rfl, by omega, by omega, by omega, HREP.out, .inr (.inr (.inr (.inl ⟨rfl, rfl, cl, .inr HCC.out, HO.out.symm⟩)))⟩
    · have hfew : st.length < 64 := by have := HREP.out.len; omega
      have hl0 : 0 ≤ lev ∧ lev < 64 := by have := HREP.out.len; omega
      have HREP2 := Aside0.mk (HREP.out.pushArr hfew)
      clear hfew
      go_wp2_with fail
      with_reducible refine (char_ (HB.out.below ?b) (y + 1) (by omega) (by omega)).mono ?_
      case b => exact (by repeat (first | exact Below.refl _ _ | exact HBW.out | apply pw_below_drewN))
      rintro e w1 ⟨rfl, ⟨m1, rfl⟩⟩
      by_cases c1 : rd L (y + 1) ≤ 32
      · go_wp2_with fail
        go_loopg [1, 19] (L.length) (fun kq v1 v19 w' => ∃ (z : Int), v1 = .int .i64 z ∧ v19 = .int .u8 (rd L z) ∧ Aside0 (y + 1 ≤ z ∧ z < L.length ∧ (∀ k, y + 1 ≤ k → k < z → isBlank (rd L k)) ∧ (L.length : Int) ≤ z + kq) ∧ Drawn0 w0 w')
        case atStart => exact ⟨y + 1, rfl, rfl, ⟨Int.le_refl _, by omega, fun k h1 h2 => by omega, by omega⟩, by repeat (first | exact Drawn0.refl _ | apply Drawn0.step)⟩
        case round =>
          obtain ⟨z, rfl, rfl, HA, ⟨m2, rfl⟩⟩ := hrel
          obtain ⟨hz0, hz1, hz2, hz3⟩ := HA.out
          clear HA
          have HZ2 := Aside0.mk hz2
          clear hz2
          by_cases cbl : isBlank (rd L z)
          · have hin := HT.out.inside (x := z) (by omega) hz1 (by unfold isBlank at cbl; omega)
            have hcall := fun W => white (rd L z) W
            rw [decide_eq_true cbl] at hcall
            have HC := Aside0.mk hcall
            have HCB := Aside0.mk cbl
            clear cbl hcall
            obtain _ | g0 := gk
            · exfalso; omega
            go_wp2_with fail
            with_reducible refine (HC.out _).mono ?_
            rintro e w2 ⟨rfl, ⟨m3, rfl⟩⟩
            go_wp2_with fail
            with_reducible refine (char_ (HB.out.below ?b) (z + 1) (by omega) (by omega)).mono ?_
            case b => exact (by repeat (first | exact Below.refl _ _ | exact HBW.out | apply pw_below_drewN))
            rintro e w2 ⟨rfl, ⟨m4, rfl⟩⟩
            go_wp2_with fail
            go_roundg g0
            case measure => omega
            case rel => exact ⟨z + 1, rfl, rfl, ⟨by omega, by omega, fun k h1 h2 => if hk : k = z then by rw [hk]; exact HCB.out else HZ2.out k h1 (by omega), by omega⟩, by repeat (first | exact Drawn0.refl _ | apply Drawn0.step)⟩
          · have hcall := fun W => white (rd L z) W
            rw [decide_eq_false cbl] at hcall
            have HC := Aside0.mk hcall
            have HZR := Aside0.mk (show RunTo isBlank L (y + 1) z from ⟨hz0, hz1, HZ2.out, cbl⟩)
            clear cbl hcall HZ2
            go_wp2_with fail
            with_reducible refine (HC.out _).mono ?_
            rintro e w2 ⟨rfl, ⟨m3, rfl⟩⟩
            have HO3 := Aside0.mk ((ws_out (q := q) (ph := .item0) HT.out rfl (by omega) HZR.out _).symm.trans HO2.out)
            have hzl := HZR.out.le
            have hz1' := HZR.out.lt
            by_cases ce : rd L z = 93
            · have hin := HT.out.inside (x := z) (by omega) (by omega) (by omega)
              have HO4 := Aside0.mk ((air_shut (q := q) (ph := .item0) (st := .arr :: st) HT.out rfl (by omega) hin (by rw [ce]; rfl)).symm.trans HO3.out)
              have f9 : (rd L z == 93) = true := beq_iff_eq.mpr ce
              clear ce
              go_wp2_with fail
              exact wp_goto (HQ.out _ _ _ ⟨(2 * (L.length - (z + 1)) + 1).toNat, by have := HN2.out; omega, ⟨⟨rfl, rfl, rfl, rfl, rfl, rfl, by repeat (first | exact Drawn0.refl _ | apply Drawn0.step)⟩, (z + 1), lev + 1, _, _, rfl, rfl, rfl, rfl, .arr :: st, by omega, by omega, by omega, HREP2.out, by simp; omega, by simp, HO4.out⟩⟩)
            · have HO4 := Aside0.mk ((item0_val (q := q) (st := .arr :: st) HT.out (by omega) (by omega) HZR.out.stop ce).symm.trans HO3.out)
              have f9 : (rd L z == 93) = false := beq_eq_false_iff_ne.mpr ce
              clear ce
              go_wp2_with fail
              exact wp_goto (HQ.out _ _ _ ⟨(2 * (L.length - z)).toNat, by have := HN2.out; omega, ⟨⟨rfl, rfl, rfl, rfl, rfl, rfl, by repeat (first | exact Drawn0.refl _ | apply Drawn0.step)⟩, z, lev + 1, _, _, rfl, rfl, rfl, rfl, .arr :: st, by omega, by omega, by omega, HREP2.out, by simp; omega, HO4.out, .inl (by simp)⟩⟩)
      · have HZR := Aside0.mk (show RunTo isBlank L (y + 1) (y + 1) from ⟨Int.le_refl _, by omega, fun k h1 h2 => by omega, by unfold isBlank; omega⟩)
        have HO3 := Aside0.mk ((ws_out (q := q) (ph := .item0) HT.out rfl (by omega) HZR.out _).symm.trans HO2.out)
        have hzl := HZR.out.le
        have hz1' := HZR.out.lt
        by_cases ce : rd L (y + 1) = 93
        · have hin := HT.out.inside (x := (y + 1)) (by omega) (by omega) (by omega)
          have HO4 := Aside0.mk ((air_shut (q := q) (ph := .item0) (st := .arr :: st) HT.out rfl (by omega) hin (by rw [ce]; rfl)).symm.trans HO3.out)
          have f9 : (rd L (y + 1) == 93) = true := beq_iff_eq.mpr ce
          clear ce
          go_wp2_with fail
          exact wp_goto (HQ.out _ _ _ ⟨(2 * (L.length - ((y + 1) + 1)) + 1).toNat, by have := HN2.out; omega, ⟨⟨rfl, rfl, rfl, rfl, rfl, rfl, by repeat (first | exact Drawn0.refl _ | apply Drawn0.step)⟩, ((y + 1) + 1), lev + 1, _, _, rfl, rfl, rfl, rfl, .arr :: st, by omega, by omega, by omega, HREP2.out, by simp; omega, by simp, HO4.out⟩⟩)
        · have HO4 := Aside0.mk ((item0_val (q := q) (st := .arr :: st) HT.out (by omega) (by omega) HZR.out.stop ce).symm.trans HO3.out)
          have f9 : (rd L (y + 1) == 93) = false := beq_eq_false_iff_ne.mpr ce
          clear ce
          go_wp2_with fail
          exact wp_goto (HQ.out _ _ _ ⟨(2 * (L.length - (y + 1))).toNat, by have := HN2.out; omega, ⟨⟨rfl, rfl, rfl, rfl, rfl, rfl, by repeat (first | exact Drawn0.refl _ | apply Drawn0.step)⟩, (y + 1), lev + 1, _, _, rfl, rfl, rfl, rfl, .arr :: st, by omega, by omega, by omega, HREP2.out, by simp; omega, HO4.out, .inl (by simp)⟩⟩)
  have HNE := Aside0.mk (show st ≠ [] from by rcases HS.out with h | h | h; exact h; omega; omega)
  clear HS
  by_cases cd : 49 ≤ rd L y ∧ rd L y ≤ 57
  · have hdg : isDig (rd L y) := by unfold isDig; omega
    have hin := dig_next HT.out hy0 hy1 hdg
    have HNUM := Aside0.mk (show rd L y = 45 ∨ isDig (rd L y) from .inr hdg)
    have HV := Aside0.mk (val_dig (q := q) HT.out hy0 hy1 hdg (by omega))
    have h9 : rd L y = 49 ∨ rd L y = 50 ∨ rd L y = 51 ∨ rd L y = 52 ∨ rd L y = 53 ∨ rd L y = 54 ∨ rd L y = 55 ∨ rd L y = 56 ∨ rd L y = 57 := by omega
    clear hdg cd
    rcases h9 with h9 | h9 | h9 | h9 | h9 | h9 | h9 | h9 | h9
    all_goals
      rw [h9]
      clear h9
      go_wp2_with fail
      go_loopg [1] (L.length) (fun kq v1 w' => ∃ (p : Int), v1 = .int .i64 p ∧ Aside0 (y + 1 ≤ p ∧ p < L.length ∧ (∀ k, y + 1 ≤ k → k < p → isDig (rd L k)) ∧ (L.length : Int) ≤ p + kq) ∧ Drawn0 w0 w')
      case atStart => exact ⟨y + 1, rfl, ⟨Int.le_refl _, by omega, fun k h1 h2 => by omega, by omega⟩, by repeat (first | exact Drawn0.refl _ | apply Drawn0.step)⟩
      case round =>
        obtain ⟨p, rfl, HA, ⟨m2, rfl⟩⟩ := hrel
        obtain ⟨hp0, hp1, hp2, hp3⟩ := HA.out
        clear HA
        have HP2 := Aside0.mk hp2
        clear hp2
        have hbp := HT.out.bytes p (by omega) hp1
        by_cases ci : isDig (rd L p)
        · have hin2 := dig_next HT.out (by omega) hp1 ci
          have HCI := Aside0.mk ci
          have hci : 48 ≤ rd L p ∧ rd L p ≤ 57 := ci
          clear ci
          obtain _ | g0 := gk
          · exfalso; omega
          go_wp2_with fail
          with_reducible refine (char_ (HB.out.below ?b) (p) (by omega) (by omega)).mono ?_
          case b => exact (by repeat (first | exact Below.refl _ _ | exact HBW.out | apply pw_below_drewN))
          rintro e w1 ⟨rfl, ⟨m1, rfl⟩⟩
          go_wp2_with fail
          go_roundg g0
          case measure => omega
          case rel => exact ⟨p + 1, rfl, ⟨by omega, by omega, fun k h1 h2 => if hk : k = p then by rw [hk]; exact HCI.out else HP2.out k h1 (by omega), by omega⟩, by repeat (first | exact Drawn0.refl _ | apply Drawn0.step)⟩
        · have HNI := Aside0.mk ci
          have hci : rd L p < 48 ∨ 57 < rd L p := by unfold isDig at ci; omega
          have HRUN := Aside0.mk (show RunTo isDig L (y + 1) p from ⟨hp0, hp1, HP2.out, ci⟩)
          clear ci HP2
          go_wp2_with fail
          with_reducible refine (char_ (HB.out.below ?b) (p) (by omega) (by omega)).mono ?_
          case b => exact (by repeat (first | exact Below.refl _ _ | exact HBW.out | apply pw_below_drewN))
          rintro e w1 ⟨rfl, ⟨m1, rfl⟩⟩
          go_wp2_with fail
          with_reducible refine (char_ (HB.out.below ?b) (p) (by omega) (by omega)).mono ?_
          case b => exact (by repeat (first | exact Below.refl _ _ | exact HBW.out | apply pw_below_drewN))
          rintro e w1 ⟨rfl, ⟨m1, rfl⟩⟩
          by_cases cp : rd L (p) = 46 ∨ rd L (p) = 101 ∨ rd L (p) = 69
          · rcases cp with cp | cp | cp
            all_goals
              rw [cp]
              clear cp
              go_wp2_with fail
              exact HR.out _ _ ⟨rfl, by repeat (first | exact Drawn0.refl _ | apply Drawn0.step), y, lev, obj, st, 1, 2, rfl, rfl, rfl, rfl, rfl, by omega, by omega, by omega, HREP.out, .inr (.inr (.inl ⟨rfl, rfl, HNE.out, HNUM.out, HO.out.symm⟩))⟩
          · have g1 : (rd L (p) == 46) = false := beq_eq_false_iff_ne.mpr (by omega)
            have g2 : (rd L (p) == 101) = false := beq_eq_false_iff_ne.mpr (by omega)
            have g3 : (rd L (p) == 69) = false := beq_eq_false_iff_ne.mpr (by omega)
            have HEND := Aside0.mk ((HV.out.trans (whole_digs HT.out (by omega) HRUN.out)).ends (whole_ends HT.out (by omega) hp1 HNI.out (by omega) (by omega) (by omega)))
            clear cp
            go_wp2_with fail
            refine HKK.out _ _ ⟨⟨rfl, rfl, rfl, rfl, rfl, rfl, by repeat (first | exact Drawn0.refl _ | apply Drawn0.step)⟩, (p), lev, obj, _, rfl, rfl, rfl, rfl, rfl, rfl, by omega, by omega, HNE.out, ?_⟩
            rw [← HO.out, HEND.out st]
            exact (contO_out HNE.out _).symm

  by_cases cc : rd L y = 48
  · have hin := HT.out.inside (x := y) hy0 hy1 (by omega)
    have HNUM := Aside0.mk (show rd L y = 45 ∨ isDig (rd L y) from .inr (by rw [cc]; decide))
    have HV := Aside0.mk (val_zero (q := q) HT.out hy0 hy1 cc)
    rw [cc]
    clear cc
    go_wp2_with fail
    with_reducible refine (char_ (HB.out.below ?b) (y + 1) (by omega) (by omega)).mono ?_
    case b => exact (by repeat (first | exact Below.refl _ _ | exact HBW.out | apply pw_below_drewN))
    rintro e w1 ⟨rfl, ⟨m1, rfl⟩⟩
    by_cases cp : rd L (y + 1) = 46 ∨ rd L (y + 1) = 101 ∨ rd L (y + 1) = 69
    · rcases cp with cp | cp | cp
      all_goals
        rw [cp]
        clear cp
        go_wp2_with fail
        exact HR.out _ _ ⟨rfl, by repeat (first | exact Drawn0.refl _ | apply Drawn0.step), y, lev, obj, st, 1, 2, rfl, rfl, rfl, rfl, rfl, by omega, by omega, by omega, HREP.out, .inr (.inr (.inl ⟨rfl, rfl, HNE.out, HNUM.out, HO.out.symm⟩))⟩
    · have g1 : (rd L (y + 1) == 46) = false := beq_eq_false_iff_ne.mpr (by omega)
      have g2 : (rd L (y + 1) == 101) = false := beq_eq_false_iff_ne.mpr (by omega)
      have g3 : (rd L (y + 1) == 69) = false := beq_eq_false_iff_ne.mpr (by omega)
      have HEND := Aside0.mk (HV.out.ends (zero_ends HT.out (by omega) (by omega) (by omega) (by omega) (by omega)))
      clear cp
      go_wp2_with fail
      refine HKK.out _ _ ⟨⟨rfl, rfl, rfl, rfl, rfl, rfl, by repeat (first | exact Drawn0.refl _ | apply Drawn0.step)⟩, (y + 1), lev, obj, _, rfl, rfl, rfl, rfl, rfl, rfl, by omega, by omega, HNE.out, ?_⟩
      rw [← HO.out, HEND.out st]
      exact (contO_out HNE.out _).symm
  by_cases cc : rd L y = 45
  · have HNUM := Aside0.mk (show rd L y = 45 ∨ isDig (rd L y) from .inl cc)
    rw [cc]
    clear cc
    go_wp2_with fail
    exact HR.out _ _ ⟨rfl, by repeat (first | exact Drawn0.refl _ | apply Drawn0.step), y, lev, obj, st, 1, 2, rfl, rfl, rfl, rfl, rfl, by omega, by omega, by omega, HREP.out, .inr (.inr (.inl ⟨rfl, rfl, HNE.out, HNUM.out, HO.out.symm⟩))⟩
  by_cases cc : rd L y = 116
  · obtain ⟨hv, hy2⟩ := val_t (q := q) (st := st) HT.out hy0 hy1 cc
    have HCC := Aside0.mk cc
    have hcc := cc
    have HV := Aside0.mk hv
    rw [cc]
    clear cc hv
    by_cases m1 : rd L (y + 1) = 114
    rotate_left
    · have HM := Aside0.mk (show Mis L y lTrue 1 from ⟨by decide, by decide, by omega, fun j h1 h2 => by
        obtain h := (show False by omega)
        exact h.elim, m1⟩)
      have f1 : (rd L (y + 1) == 114) = false := beq_eq_false_iff_ne.mpr m1
      have f2 : (rd L (y + 1) != 114) = true := bne_iff_ne.mpr m1
      clear m1 hcc
      go_wp2_with fail
      with_reducible refine (char_ (HB.out.below ?b) (y + 1) (by omega) (by omega)).mono ?_
      case b => exact (by repeat (first | exact Below.refl _ _ | exact HBW.out | apply pw_below_drewN))
      rintro e w1 ⟨rfl, ⟨m1, rfl⟩⟩
      go_wp2_with fail
      exact HR.out _ _ ⟨rfl, by repeat (first | exact Drawn0.refl _ | apply Drawn0.step), y, lev, obj, st, 0, 4, rfl, rfl, rfl, rfl, rfl, by omega, by omega, by omega, HREP.out, .inr (.inr (.inr (.inr ⟨rfl, HNB.out, .inl ⟨rfl, HNE.out, HO.out.symm, by have := HCC.out; omega, by have := HCC.out; omega, by have := HCC.out; omega, by have := HCC.out; omega, by have := HCC.out; unfold isDig; omega, fun _ => ⟨1, HM.out⟩, fun h => absurd (h.symm.trans HCC.out) (by decide), fun h => absurd (h.symm.trans HCC.out) (by decide)⟩⟩)))⟩
    have M1 := Aside0.mk m1
    have hlt1 : y + 1 + 1 < L.length := by have := HT.out.inside (x := y + 1) (by omega) (by omega) (by omega); omega
    clear m1
    by_cases m2 : rd L (y + 2) = 117
    rotate_left
    · have HM := Aside0.mk (show Mis L y lTrue 2 from ⟨by decide, by decide, by omega, fun j h1 h2 => by
        obtain rfl := (show j = 1 by omega)
        all_goals first | exact M1.out, m2⟩)
      have f1 : (rd L (y + 2) == 117) = false := beq_eq_false_iff_ne.mpr m2
      have f2 : (rd L (y + 2) != 117) = true := bne_iff_ne.mpr m2
      clear m2 hcc
      go_wp2_with fail
      with_reducible refine (char_ (HB.out.below ?b) (y + 1) (by omega) (by omega)).mono ?_
      case b => exact (by repeat (first | exact Below.refl _ _ | exact HBW.out | apply pw_below_drewN))
      rintro e w1 ⟨rfl, ⟨m1, rfl⟩⟩
      rw [M1.out]
      go_wp2_with fail
      with_reducible refine (char_ (HB.out.below ?b) (y + 2) (by omega) (by omega)).mono ?_
      case b => exact (by repeat (first | exact Below.refl _ _ | exact HBW.out | apply pw_below_drewN))
      rintro e w1 ⟨rfl, ⟨m1, rfl⟩⟩
      go_wp2_with fail
      exact HR.out _ _ ⟨rfl, by repeat (first | exact Drawn0.refl _ | apply Drawn0.step), y, lev, obj, st, 0, 4, rfl, rfl, rfl, rfl, rfl, by omega, by omega, by omega, HREP.out, .inr (.inr (.inr (.inr ⟨rfl, HNB.out, .inl ⟨rfl, HNE.out, HO.out.symm, by have := HCC.out; omega, by have := HCC.out; omega, by have := HCC.out; omega, by have := HCC.out; omega, by have := HCC.out; unfold isDig; omega, fun _ => ⟨2, HM.out⟩, fun h => absurd (h.symm.trans HCC.out) (by decide), fun h => absurd (h.symm.trans HCC.out) (by decide)⟩⟩)))⟩
    have M2 := Aside0.mk m2
    have hlt2 : y + 2 + 1 < L.length := by have := HT.out.inside (x := y + 2) (by omega) (by omega) (by omega); omega
    clear m2
    by_cases m3 : rd L (y + 3) = 101
    rotate_left
    · have HM := Aside0.mk (show Mis L y lTrue 3 from ⟨by decide, by decide, by omega, fun j h1 h2 => by
        obtain rfl | rfl := (show j = 1 ∨ j = 2 by omega)
        all_goals first | exact M1.out | exact M2.out, m3⟩)
      have f1 : (rd L (y + 3) == 101) = false := beq_eq_false_iff_ne.mpr m3
      have f2 : (rd L (y + 3) != 101) = true := bne_iff_ne.mpr m3
      clear m3 hcc
      go_wp2_with fail
      with_reducible refine (char_ (HB.out.below ?b) (y + 1) (by omega) (by omega)).mono ?_
      case b => exact (by repeat (first | exact Below.refl _ _ | exact HBW.out | apply pw_below_drewN))
      rintro e w1 ⟨rfl, ⟨m1, rfl⟩⟩
      rw [M1.out]
      go_wp2_with fail
      with_reducible refine (char_ (HB.out.below ?b) (y + 2) (by omega) (by omega)).mono ?_
      case b => exact (by repeat (first | exact Below.refl _ _ | exact HBW.out | apply pw_below_drewN))
      rintro e w1 ⟨rfl, ⟨m1, rfl⟩⟩
      rw [M2.out]
      go_wp2_with fail
      with_reducible refine (char_ (HB.out.below ?b) (y + 3) (by omega) (by omega)).mono ?_
      case b => exact (by repeat (first | exact Below.refl _ _ | exact HBW.out | apply pw_below_drewN))
      rintro e w1 ⟨rfl, ⟨m1, rfl⟩⟩
      go_wp2_with fail
      exact HR.out _ _ ⟨rfl, by repeat (first | exact Drawn0.refl _ | apply Drawn0.step), y, lev, obj, st, 0, 4, rfl, rfl, rfl, rfl, rfl, by omega, by omega, by omega, HREP.out, .inr (.inr (.inr (.inr ⟨rfl, HNB.out, .inl ⟨rfl, HNE.out, HO.out.symm, by have := HCC.out; omega, by have := HCC.out; omega, by have := HCC.out; omega, by have := HCC.out; omega, by have := HCC.out; unfold isDig; omega, fun _ => ⟨3, HM.out⟩, fun h => absurd (h.symm.trans HCC.out) (by decide), fun h => absurd (h.symm.trans HCC.out) (by decide)⟩⟩)))⟩
    have M3 := Aside0.mk m3
    have hlt3 : y + 3 + 1 < L.length := by have := HT.out.inside (x := y + 3) (by omega) (by omega) (by omega); omega
    clear m3
    have HEND := Aside0.mk (show out q L (.word lTrue 1) st (y + 1) = contO q L st (y + 4) by
      rw [(word_next (q := q) (st := st) (l := lTrue) (k := 1) HT.out (x := y + 1) (by omega) (by omega) (by decide) M1.out (by decide)).1, show y + 1 + 1 = y + 2 by omega]
      rw [(word_next (q := q) (st := st) (l := lTrue) (k := 2) HT.out (x := y + 2) (by omega) (by omega) (by decide) M2.out (by decide)).1, show y + 2 + 1 = y + 3 by omega]
      rw [(word_last (q := q) (st := st) (l := lTrue) (k := 3) HT.out (x := y + 3) (by omega) (by omega) (by decide) M3.out (by decide)).1]
      rw [show y + 3 + 1 = y + 4 by omega])
    clear hcc
    go_wp2_with fail
    with_reducible refine (char_ (HB.out.below ?b) (y + 1) (by omega) (by omega)).mono ?_
    case b => exact (by repeat (first | exact Below.refl _ _ | exact HBW.out | apply pw_below_drewN))
    rintro e w1 ⟨rfl, ⟨m1, rfl⟩⟩
    rw [M1.out]
    go_wp2_with fail
    with_reducible refine (char_ (HB.out.below ?b) (y + 2) (by omega) (by omega)).mono ?_
    case b => exact (by repeat (first | exact Below.refl _ _ | exact HBW.out | apply pw_below_drewN))
    rintro e w1 ⟨rfl, ⟨m1, rfl⟩⟩
    rw [M2.out]
    go_wp2_with fail
    with_reducible refine (char_ (HB.out.below ?b) (y + 3) (by omega) (by omega)).mono ?_
    case b => exact (by repeat (first | exact Below.refl _ _ | exact HBW.out | apply pw_below_drewN))
    rintro e w1 ⟨rfl, ⟨m1, rfl⟩⟩
    rw [M3.out]
    go_wp2_with fail
    refine HKK.out _ _ ⟨⟨rfl, rfl, rfl, rfl, rfl, rfl, by repeat (first | exact Drawn0.refl _ | apply Drawn0.step)⟩, y + 4, lev, obj, _, rfl, rfl, rfl, rfl, rfl, rfl, by omega, by omega, HNE.out, ?_⟩
    rw [← HO.out, HV.out, HEND.out]
    exact (contO_out HNE.out _).symm
  by_cases cc : rd L y = 102
  · obtain ⟨hv, hy2⟩ := val_f (q := q) (st := st) HT.out hy0 hy1 cc
    have HCC := Aside0.mk cc
    have hcc := cc
    have HV := Aside0.mk hv
    rw [cc]
    clear cc hv
    by_cases m1 : rd L (y + 1) = 97
    rotate_left
    · have HM := Aside0.mk (show Mis L y lFalse 1 from ⟨by decide, by decide, by omega, fun j h1 h2 => by
        obtain h := (show False by omega)
        exact h.elim, m1⟩)
      have f1 : (rd L (y + 1) == 97) = false := beq_eq_false_iff_ne.mpr m1
      have f2 : (rd L (y + 1) != 97) = true := bne_iff_ne.mpr m1
      clear m1 hcc
      go_wp2_with fail
      with_reducible refine (char_ (HB.out.below ?b) (y + 1) (by omega) (by omega)).mono ?_
      case b => exact (by repeat (first | exact Below.refl _ _ | exact HBW.out | apply pw_below_drewN))
      rintro e w1 ⟨rfl, ⟨m1, rfl⟩⟩
      go_wp2_with fail
      exact HR.out _ _ ⟨rfl, by repeat (first | exact Drawn0.refl _ | apply Drawn0.step), y, lev, obj, st, 0, 4, rfl, rfl, rfl, rfl, rfl, by omega, by omega, by omega, HREP.out, .inr (.inr (.inr (.inr ⟨rfl, HNB.out, .inl ⟨rfl, HNE.out, HO.out.symm, by have := HCC.out; omega, by have := HCC.out; omega, by have := HCC.out; omega, by have := HCC.out; omega, by have := HCC.out; unfold isDig; omega, fun h => absurd (h.symm.trans HCC.out) (by decide), fun _ => ⟨1, HM.out⟩, fun h => absurd (h.symm.trans HCC.out) (by decide)⟩⟩)))⟩
    have M1 := Aside0.mk m1
    have hlt1 : y + 1 + 1 < L.length := by have := HT.out.inside (x := y + 1) (by omega) (by omega) (by omega); omega
    clear m1
    by_cases m2 : rd L (y + 2) = 108
    rotate_left
    · have HM := Aside0.mk (show Mis L y lFalse 2 from ⟨by decide, by decide, by omega, fun j h1 h2 => by
        obtain rfl := (show j = 1 by omega)
        all_goals first | exact M1.out, m2⟩)
      have f1 : (rd L (y + 2) == 108) = false := beq_eq_false_iff_ne.mpr m2
      have f2 : (rd L (y + 2) != 108) = true := bne_iff_ne.mpr m2
      clear m2 hcc
      go_wp2_with fail
      with_reducible refine (char_ (HB.out.below ?b) (y + 1) (by omega) (by omega)).mono ?_
      case b => exact (by repeat (first | exact Below.refl _ _ | exact HBW.out | apply pw_below_drewN))
      rintro e w1 ⟨rfl, ⟨m1, rfl⟩⟩
      rw [M1.out]
      go_wp2_with fail
      with_reducible refine (char_ (HB.out.below ?b) (y + 2) (by omega) (by omega)).mono ?_
      case b => exact (by repeat (first | exact Below.refl _ _ | exact HBW.out | apply pw_below_drewN))
      rintro e w1 ⟨rfl, ⟨m1, rfl⟩⟩
      go_wp2_with fail
      exact HR.out _ _ ⟨rfl, by repeat (first | exact Drawn0.refl _ | apply Drawn0.step), y, lev, obj, st, 0, 4, rfl, rfl, rfl, rfl, rfl, by omega, by omega, by omega, HREP.out, .inr (.inr (.inr (.inr ⟨rfl, HNB.out, .inl ⟨rfl, HNE.out, HO.out.symm, by have := HCC.out; omega, by have := HCC.out; omega, by have := HCC.out; omega, by have := HCC.out; omega, by have := HCC.out; unfold isDig; omega, fun h => absurd (h.symm.trans HCC.out) (by decide), fun _ => ⟨2, HM.out⟩, fun h => absurd (h.symm.trans HCC.out) (by decide)⟩⟩)))⟩
    have M2 := Aside0.mk m2
    have hlt2 : y + 2 + 1 < L.length := by have := HT.out.inside (x := y + 2) (by omega) (by omega) (by omega); omega
    clear m2
    by_cases m3 : rd L (y + 3) = 115
    rotate_left
    · have HM := Aside0.mk (show Mis L y lFalse 3 from ⟨by decide, by decide, by omega, fun j h1 h2 => by
        obtain rfl | rfl := (show j = 1 ∨ j = 2 by omega)
        all_goals first | exact M1.out | exact M2.out, m3⟩)
      have f1 : (rd L (y + 3) == 115) = false := beq_eq_false_iff_ne.mpr m3
      have f2 : (rd L (y + 3) != 115) = true := bne_iff_ne.mpr m3
      clear m3 hcc
      go_wp2_with fail
      with_reducible refine (char_ (HB.out.below ?b) (y + 1) (by omega) (by omega)).mono ?_
      case b => exact (by repeat (first | exact Below.refl _ _ | exact HBW.out | apply pw_below_drewN))
      rintro e w1 ⟨rfl, ⟨m1, rfl⟩⟩
      rw [M1.out]
      go_wp2_with fail
      with_reducible refine (char_ (HB.out.below ?b) (y + 2) (by omega) (by omega)).mono ?_
      case b => exact (by repeat (first | exact Below.refl _ _ | exact HBW.out | apply pw_below_drewN))
      rintro e w1 ⟨rfl, ⟨m1, rfl⟩⟩
      rw [M2.out]
      go_wp2_with fail
      with_reducible refine (char_ (HB.out.below ?b) (y + 3) (by omega) (by omega)).mono ?_
      case b => exact (by repeat (first | exact Below.refl _ _ | exact HBW.out | apply pw_below_drewN))
      rintro e w1 ⟨rfl, ⟨m1, rfl⟩⟩
      go_wp2_with fail
      exact HR.out _ _ ⟨rfl, by repeat (first | exact Drawn0.refl _ | apply Drawn0.step), y, lev, obj, st, 0, 4, rfl, rfl, rfl, rfl, rfl, by omega, by omega, by omega, HREP.out, .inr (.inr (.inr (.inr ⟨rfl, HNB.out, .inl ⟨rfl, HNE.out, HO.out.symm, by have := HCC.out; omega, by have := HCC.out; omega, by have := HCC.out; omega, by have := HCC.out; omega, by have := HCC.out; unfold isDig; omega, fun h => absurd (h.symm.trans HCC.out) (by decide), fun _ => ⟨3, HM.out⟩, fun h => absurd (h.symm.trans HCC.out) (by decide)⟩⟩)))⟩
    have M3 := Aside0.mk m3
    have hlt3 : y + 3 + 1 < L.length := by have := HT.out.inside (x := y + 3) (by omega) (by omega) (by omega); omega
    clear m3
    by_cases m4 : rd L (y + 4) = 101
    rotate_left
    · have HM := Aside0.mk (show Mis L y lFalse 4 from ⟨by decide, by decide, by omega, fun j h1 h2 => by
        obtain rfl | rfl | rfl := (show j = 1 ∨ j = 2 ∨ j = 3 by omega)
        all_goals first | exact M1.out | exact M2.out | exact M3.out, m4⟩)
      have f1 : (rd L (y + 4) == 101) = false := beq_eq_false_iff_ne.mpr m4
      have f2 : (rd L (y + 4) != 101) = true := bne_iff_ne.mpr m4
      clear m4 hcc
      go_wp2_with fail
      with_reducible refine (char_ (HB.out.below ?b) (y + 1) (by omega) (by omega)).mono ?_
      case b => exact (by repeat (first | exact Below.refl _ _ | exact HBW.out | apply pw_below_drewN))
      rintro e w1 ⟨rfl, ⟨m1, rfl⟩⟩
      rw [M1.out]
      go_wp2_with fail
      with_reducible refine (char_ (HB.out.below ?b) (y + 2) (by omega) (by omega)).mono ?_
      case b => exact (by repeat (first | exact Below.refl _ _ | exact HBW.out | apply pw_below_drewN))
      rintro e w1 ⟨rfl, ⟨m1, rfl⟩⟩
      rw [M2.out]
      go_wp2_with fail
      with_reducible refine (char_ (HB.out.below ?b) (y + 3) (by omega) (by omega)).mono ?_
      case b => exact (by repeat (first | exact Below.refl _ _ | exact HBW.out | apply pw_below_drewN))
      rintro e w1 ⟨rfl, ⟨m1, rfl⟩⟩
      rw [M3.out]
      go_wp2_with fail
      with_reducible refine (char_ (HB.out.below ?b) (y + 4) (by omega) (by omega)).mono ?_
      case b => exact (by repeat (first | exact Below.refl _ _ | exact HBW.out | apply pw_below_drewN))
      rintro e w1 ⟨rfl, ⟨m1, rfl⟩⟩
      go_wp2_with fail
      exact HR.out _ _ ⟨rfl, by repeat (first | exact Drawn0.refl _ | apply Drawn0.step), y, lev, obj, st, 0, 4, rfl, rfl, rfl, rfl, rfl, by omega, by omega, by omega, HREP.out, .inr (.inr (.inr (.inr ⟨rfl, HNB.out, .inl ⟨rfl, HNE.out, HO.out.symm, by have := HCC.out; omega, by have := HCC.out; omega, by have := HCC.out; omega, by have := HCC.out; omega, by have := HCC.out; unfold isDig; omega, fun h => absurd (h.symm.trans HCC.out) (by decide), fun _ => ⟨4, HM.out⟩, fun h => absurd (h.symm.trans HCC.out) (by decide)⟩⟩)))⟩
    have M4 := Aside0.mk m4
    have hlt4 : y + 4 + 1 < L.length := by have := HT.out.inside (x := y + 4) (by omega) (by omega) (by omega); omega
    clear m4
    have HEND := Aside0.mk (show out q L (.word lFalse 1) st (y + 1) = contO q L st (y + 5) by
      rw [(word_next (q := q) (st := st) (l := lFalse) (k := 1) HT.out (x := y + 1) (by omega) (by omega) (by decide) M1.out (by decide)).1, show y + 1 + 1 = y + 2 by omega]
      rw [(word_next (q := q) (st := st) (l := lFalse) (k := 2) HT.out (x := y + 2) (by omega) (by omega) (by decide) M2.out (by decide)).1, show y + 2 + 1 = y + 3 by omega]
      rw [(word_next (q := q) (st := st) (l := lFalse) (k := 3) HT.out (x := y + 3) (by omega) (by omega) (by decide) M3.out (by decide)).1, show y + 3 + 1 = y + 4 by omega]
      rw [(word_last (q := q) (st := st) (l := lFalse) (k := 4) HT.out (x := y + 4) (by omega) (by omega) (by decide) M4.out (by decide)).1]
      rw [show y + 4 + 1 = y + 5 by omega])
    clear hcc
    go_wp2_with fail
    with_reducible refine (char_ (HB.out.below ?b) (y + 1) (by omega) (by omega)).mono ?_
    case b => exact (by repeat (first | exact Below.refl _ _ | exact HBW.out | apply pw_below_drewN))
    rintro e w1 ⟨rfl, ⟨m1, rfl⟩⟩
    rw [M1.out]
    go_wp2_with fail
    with_reducible refine (char_ (HB.out.below ?b) (y + 2) (by omega) (by omega)).mono ?_
    case b => exact (by repeat (first | exact Below.refl _ _ | exact HBW.out | apply pw_below_drewN))
    rintro e w1 ⟨rfl, ⟨m1, rfl⟩⟩
    rw [M2.out]
    go_wp2_with fail
    with_reducible refine (char_ (HB.out.below ?b) (y + 3) (by omega) (by omega)).mono ?_
    case b => exact (by repeat (first | exact Below.refl _ _ | exact HBW.out | apply pw_below_drewN))
    rintro e w1 ⟨rfl, ⟨m1, rfl⟩⟩
    rw [M3.out]
    go_wp2_with fail
    with_reducible refine (char_ (HB.out.below ?b) (y + 4) (by omega) (by omega)).mono ?_
    case b => exact (by repeat (first | exact Below.refl _ _ | exact HBW.out | apply pw_below_drewN))
    rintro e w1 ⟨rfl, ⟨m1, rfl⟩⟩
    rw [M4.out]
    go_wp2_with fail
    refine HKK.out _ _ ⟨⟨rfl, rfl, rfl, rfl, rfl, rfl, by repeat (first | exact Drawn0.refl _ | apply Drawn0.step)⟩, y + 5, lev, obj, _, rfl, rfl, rfl, rfl, rfl, rfl, by omega, by omega, HNE.out, ?_⟩
    rw [← HO.out, HV.out, HEND.out]
    exact (contO_out HNE.out _).symm
  by_cases cc : rd L y = 110
  · obtain ⟨hv, hy2⟩ := val_n (q := q) (st := st) HT.out hy0 hy1 cc
    have HCC := Aside0.mk cc
    have hcc := cc
    have HV := Aside0.mk hv
    rw [cc]
    clear cc hv
    by_cases m1 : rd L (y + 1) = 117
    rotate_left
    · have HM := Aside0.mk (show Mis L y lNull 1 from ⟨by decide, by decide, by omega, fun j h1 h2 => by
        obtain h := (show False by omega)
        exact h.elim, m1⟩)
      have f1 : (rd L (y + 1) == 117) = false := beq_eq_false_iff_ne.mpr m1
      have f2 : (rd L (y + 1) != 117) = true := bne_iff_ne.mpr m1
      clear m1 hcc
      go_wp2_with fail
      with_reducible refine (char_ (HB.out.below ?b) (y + 1) (by omega) (by omega)).mono ?_
      case b => exact (by repeat (first | exact Below.refl _ _ | exact HBW.out | apply pw_below_drewN))
      rintro e w1 ⟨rfl, ⟨m1, rfl⟩⟩
      go_wp2_with fail
      exact HR.out _ _ ⟨rfl, by repeat (first | exact Drawn0.refl _ | apply Drawn0.step), y, lev, obj, st, 0, 4, rfl, rfl, rfl, rfl, rfl, by omega, by omega, by omega, HREP.out, .inr (.inr (.inr (.inr ⟨rfl, HNB.out, .inl ⟨rfl, HNE.out, HO.out.symm, by have := HCC.out; omega, by have := HCC.out; omega, by have := HCC.out; omega, by have := HCC.out; omega, by have := HCC.out; unfold isDig; omega, fun h => absurd (h.symm.trans HCC.out) (by decide), fun h => absurd (h.symm.trans HCC.out) (by decide), fun _ => ⟨1, HM.out⟩⟩⟩)))⟩
    have M1 := Aside0.mk m1
    have hlt1 : y + 1 + 1 < L.length := by have := HT.out.inside (x := y + 1) (by omega) (by omega) (by omega); omega
    clear m1
    by_cases m2 : rd L (y + 2) = 108
    rotate_left
    · have HM := Aside0.mk (show Mis L y lNull 2 from ⟨by decide, by decide, by omega, fun j h1 h2 => by
        obtain rfl := (show j = 1 by omega)
        all_goals first | exact M1.out, m2⟩)
      have f1 : (rd L (y + 2) == 108) = false := beq_eq_false_iff_ne.mpr m2
      have f2 : (rd L (y + 2) != 108) = true := bne_iff_ne.mpr m2
      clear m2 hcc
      go_wp2_with fail
      with_reducible refine (char_ (HB.out.below ?b) (y + 1) (by omega) (by omega)).mono ?_
      case b => exact (by repeat (first | exact Below.refl _ _ | exact HBW.out | apply pw_below_drewN))
      rintro e w1 ⟨rfl, ⟨m1, rfl⟩⟩
      rw [M1.out]
      go_wp2_with fail
      with_reducible refine (char_ (HB.out.below ?b) (y + 2) (by omega) (by omega)).mono ?_
      case b => exact (by repeat (first | exact Below.refl _ _ | exact HBW.out | apply pw_below_drewN))
      rintro e w1 ⟨rfl, ⟨m1, rfl⟩⟩
      go_wp2_with fail
      exact HR.out _ _ ⟨rfl, by repeat (first | exact Drawn0.refl _ | apply Drawn0.step), y, lev, obj, st, 0, 4, rfl, rfl, rfl, rfl, rfl, by omega, by omega, by omega, HREP.out, .inr (.inr (.inr (.inr ⟨rfl, HNB.out, .inl ⟨rfl, HNE.out, HO.out.symm, by have := HCC.out; omega, by have := HCC.out; omega, by have := HCC.out; omega, by have := HCC.out; omega, by have := HCC.out; unfold isDig; omega, fun h => absurd (h.symm.trans HCC.out) (by decide), fun h => absurd (h.symm.trans HCC.out) (by decide), fun _ => ⟨2, HM.out⟩⟩⟩)))⟩
    have M2 := Aside0.mk m2
    have hlt2 : y + 2 + 1 < L.length := by have := HT.out.inside (x := y + 2) (by omega) (by omega) (by omega); omega
    clear m2
    by_cases m3 : rd L (y + 3) = 108
    rotate_left
    · have HM := Aside0.mk (show Mis L y lNull 3 from ⟨by decide, by decide, by omega, fun j h1 h2 => by
        obtain rfl | rfl := (show j = 1 ∨ j = 2 by omega)
        all_goals first | exact M1.out | exact M2.out, m3⟩)
      have f1 : (rd L (y + 3) == 108) = false := beq_eq_false_iff_ne.mpr m3
      have f2 : (rd L (y + 3) != 108) = true := bne_iff_ne.mpr m3
      clear m3 hcc
      go_wp2_with fail
      with_reducible refine (char_ (HB.out.below ?b) (y + 1) (by omega) (by omega)).mono ?_
      case b => exact (by repeat (first | exact Below.refl _ _ | exact HBW.out | apply pw_below_drewN))
      rintro e w1 ⟨rfl, ⟨m1, rfl⟩⟩
      rw [M1.out]
      go_wp2_with fail
      with_reducible refine (char_ (HB.out.below ?b) (y + 2) (by omega) (by omega)).mono ?_
      case b => exact (by repeat (first | exact Below.refl _ _ | exact HBW.out | apply pw_below_drewN))
      rintro e w1 ⟨rfl, ⟨m1, rfl⟩⟩
      rw [M2.out]
      go_wp2_with fail
      with_reducible refine (char_ (HB.out.below ?b) (y + 3) (by omega) (by omega)).mono ?_
      case b => exact (by repeat (first | exact Below.refl _ _ | exact HBW.out | apply pw_below_drewN))
      rintro e w1 ⟨rfl, ⟨m1, rfl⟩⟩
      go_wp2_with fail
      exact HR.out _ _ ⟨rfl, by repeat (first | exact Drawn0.refl _ | apply Drawn0.step), y, lev, obj, st, 0, 4, rfl, rfl, rfl, rfl, rfl, by omega, by omega, by omega, HREP.out, .inr (.inr (.inr (.inr ⟨rfl, HNB.out, .inl ⟨rfl, HNE.out, HO.out.symm, by have := HCC.out; omega, by have := HCC.out; omega, by have := HCC.out; omega, by have := HCC.out; omega, by have := HCC.out; unfold isDig; omega, fun h => absurd (h.symm.trans HCC.out) (by decide), fun h => absurd (h.symm.trans HCC.out) (by decide), fun _ => ⟨3, HM.out⟩⟩⟩)))⟩
    have M3 := Aside0.mk m3
    have hlt3 : y + 3 + 1 < L.length := by have := HT.out.inside (x := y + 3) (by omega) (by omega) (by omega); omega
    clear m3
    have HEND := Aside0.mk (show out q L (.word lNull 1) st (y + 1) = contO q L st (y + 4) by
      rw [(word_next (q := q) (st := st) (l := lNull) (k := 1) HT.out (x := y + 1) (by omega) (by omega) (by decide) M1.out (by decide)).1, show y + 1 + 1 = y + 2 by omega]
      rw [(word_next (q := q) (st := st) (l := lNull) (k := 2) HT.out (x := y + 2) (by omega) (by omega) (by decide) M2.out (by decide)).1, show y + 2 + 1 = y + 3 by omega]
      rw [(word_last (q := q) (st := st) (l := lNull) (k := 3) HT.out (x := y + 3) (by omega) (by omega) (by decide) M3.out (by decide)).1]
      rw [show y + 3 + 1 = y + 4 by omega])
    clear hcc
    go_wp2_with fail
    with_reducible refine (char_ (HB.out.below ?b) (y + 1) (by omega) (by omega)).mono ?_
    case b => exact (by repeat (first | exact Below.refl _ _ | exact HBW.out | apply pw_below_drewN))
    rintro e w1 ⟨rfl, ⟨m1, rfl⟩⟩
    rw [M1.out]
    go_wp2_with fail
    with_reducible refine (char_ (HB.out.below ?b) (y + 2) (by omega) (by omega)).mono ?_
    case b => exact (by repeat (first | exact Below.refl _ _ | exact HBW.out | apply pw_below_drewN))
    rintro e w1 ⟨rfl, ⟨m1, rfl⟩⟩
    rw [M2.out]
    go_wp2_with fail
    with_reducible refine (char_ (HB.out.below ?b) (y + 3) (by omega) (by omega)).mono ?_
    case b => exact (by repeat (first | exact Below.refl _ _ | exact HBW.out | apply pw_below_drewN))
    rintro e w1 ⟨rfl, ⟨m1, rfl⟩⟩
    rw [M3.out]
    go_wp2_with fail
    refine HKK.out _ _ ⟨⟨rfl, rfl, rfl, rfl, rfl, rfl, by repeat (first | exact Drawn0.refl _ | apply Drawn0.step)⟩, y + 4, lev, obj, _, rfl, rfl, rfl, rfl, rfl, rfl, by omega, by omega, HNE.out, ?_⟩
    rw [← HO.out, HV.out, HEND.out]
    exact (contO_out HNE.out _).symm
  have HD := Aside0.mk (show rd L y ≠ 34 ∧ rd L y ≠ 123 ∧ rd L y ≠ 91 ∧ rd L y ≠ 45 ∧ ¬ isDig (rd L y) ∧ rd L y ≠ 116 ∧ rd L y ≠ 102 ∧ rd L y ≠ 110 from ⟨by omega, by omega, by omega, by omega, by unfold isDig; omega, by omega, by omega, by omega⟩)
  have d123 : (rd L y == 123) = false := beq_eq_false_iff_ne.mpr (by omega)
  have d91 : (rd L y == 91) = false := beq_eq_false_iff_ne.mpr (by omega)
  have d48 : (rd L y == 48) = false := beq_eq_false_iff_ne.mpr (by omega)
  have d49 : (rd L y == 49) = false := beq_eq_false_iff_ne.mpr (by omega)
  have d50 : (rd L y == 50) = false := beq_eq_false_iff_ne.mpr (by omega)
  have d51 : (rd L y == 51) = false := beq_eq_false_iff_ne.mpr (by omega)
  have d52 : (rd L y == 52) = false := beq_eq_false_iff_ne.mpr (by omega)
  have d53 : (rd L y == 53) = false := beq_eq_false_iff_ne.mpr (by omega)
  have d54 : (rd L y == 54) = false := beq_eq_false_iff_ne.mpr (by omega)
  have d55 : (rd L y == 55) = false := beq_eq_false_iff_ne.mpr (by omega)
  have d56 : (rd L y == 56) = false := beq_eq_false_iff_ne.mpr (by omega)
  have d57 : (rd L y == 57) = false := beq_eq_false_iff_ne.mpr (by omega)
  have d45 : (rd L y == 45) = false := beq_eq_false_iff_ne.mpr (by omega)
  have d116 : (rd L y == 116) = false := beq_eq_false_iff_ne.mpr (by omega)
  have d102 : (rd L y == 102) = false := beq_eq_false_iff_ne.mpr (by omega)
  have d110 : (rd L y == 110) = false := beq_eq_false_iff_ne.mpr (by omega)
  go_wp2_with fail
  exact HR.out _ _ ⟨rfl, by repeat (first | exact Drawn0.refl _ | apply Drawn0.step), y, lev, obj, st, 0, 4, rfl, rfl, rfl, rfl, rfl, by omega, by omega, by omega, HREP.out, .inr (.inr (.inr (.inr ⟨rfl, HNB.out, .inl ⟨rfl, HNE.out, HO.out.symm, HD.out.1, HD.out.2.1, HD.out.2.2.1, HD.out.2.2.2.1, HD.out.2.2.2.2.1, fun h => absurd h HD.out.2.2.2.2.2.1, fun h => absurd h HD.out.2.2.2.2.2.2.1, fun h => absurd h HD.out.2.2.2.2.2.2.2⟩⟩)))⟩
end Go.Proofs.YtfkagnpdapkaaaaDoor.Err
