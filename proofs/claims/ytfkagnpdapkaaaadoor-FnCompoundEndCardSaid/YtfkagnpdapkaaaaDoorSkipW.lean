/- skipRestOfObject and skipValue, over what skipGrammar answers. -/
import Derived.Test.YtfkagnpdapkaaaaDoorScF
namespace Go.Proofs.YtfkagnpdapkaaaaDoor.Err
open Go.RowKit Go.Proofs.YtfkagnpdapkaaaaDoorW.PrintWords Go.Proofs.YtfkagnpdapkaaaaDoorW.PrintLast Go.Proofs.YtfkagnpdapkaaaaDoorW.PrintMore
open Go.Proofs.YtfkagnpdapkaaaaDoor.Tab Go.Proofs.YtfkagnpdapkaaaaDoor.QF
set_option linter.unusedVariables false
theorem rep_one : Rep 1 1 [.obj] := ⟨rfl, by decide, by decide, by decide, fun b hb => by rcases List.mem_singleton.1 hb with rfl; rfl, fun j hj => by
  have : j = 0 := by simpa using hj
  subst this
  rfl⟩
theorem rep_nil : Rep 0 0 [] := ⟨rfl, by decide, by decide, by decide, (fun b hb => by cases hb), fun j hj => absurd hj (by simp)⟩
set_option maxRecDepth 100000 in
set_option maxHeartbeats 8000000 in
theorem skipRestOfObject (q : ByteArray → ByteArray) (h88 : GramSaid q) (ad : Addr) (c : Nat) (L : List Int) (x n : Int) (w : World) (hG : G q w) (hB : Buf w ad c L) (h0 : 1 ≤ x) (h1 : x < L.length) (hn : n + L.length - 1 ≤ 10000) (hn0 : 0 ≤ n) :
    Calls Tryd.prog 85 #[.slice (some ad) L.length c, .int .i64 x, .int .i64 n] w (Told (contO q L [.obj] x) w) := by
  have hsm := hB.small
  have hps := hB.pos
  have HC := Aside0.mk (skipGrammarFast q h88 ad c L x (n - 1) 1 1 [.obj] w hG hB (by omega) h1 rep_one h0 (by omega) (by omega) (by simp))
  clear hG hB h88
  go_enter Tryd.func85, Tryd.ntmps85
  go_wp2_with fail
  with_reducible refine HC.out.mono ?_
  rintro e w4 ⟨hb, ⟨d, hd, rfl⟩ | ⟨s, v, hs, hv, rfl⟩⟩
  · have HB4 := Aside0.mk hb
    have HO2 := Aside0.mk hd
    clear hb hd
    go_wp2_with fail
    go_ret2
    exact ⟨HB4.out, .inl ⟨d, HO2.out, rfl⟩⟩
  · have HB4 := Aside0.mk hb
    have HO2 := Aside0.mk hs
    have HV := Aside0.mk hv
    clear hb hs hv
    go_wp2_with fail
    go_ret2
    exact ⟨HB4.out, .inr ⟨s, v, HO2.out, HV.out, rfl⟩⟩
set_option maxRecDepth 100000 in
set_option maxHeartbeats 8000000 in
theorem skipValue (q : ByteArray → ByteArray) (h88 : GramSaid q) (ad : Addr) (c : Nat) (L : List Int) (x n : Int) (w : World) (hG : G q w) (hB : Buf w ad c L) (h0 : 0 ≤ x) (h1 : x < L.length) (hn : n + L.length - 1 ≤ 10000) (hn0 : 0 ≤ n) :
    Calls Tryd.prog 86 #[.slice (some ad) L.length c, .int .i64 x, .int .i64 n] w (Told (out q L .val [] x) w) := by
  have hsm := hB.small
  have hps := hB.pos
  have HT := Aside0.mk hB.txt
  have HB := Aside0.mk hB
  have HG := Aside0.mk hG
  have HGL := Aside0.mk hG.tab
  have H88 := Aside0.mk h88
  clear hB hG h88
  go_enter Tryd.func86, Tryd.ntmps86
  go_wp2_with fail
  go_loopg [1] (L.length) (fun kq v1 w' => ∃ (y : Int), v1 = .int .i64 y ∧ Aside0 (0 ≤ y ∧ y < L.length ∧ out q L .val [] x = out q L .val [] y ∧ (L.length : Int) ≤ y + kq) ∧ Drawn0 w w')
  case atStart => exact ⟨x, rfl, ⟨h0, h1, rfl, by omega⟩, by repeat (first | exact Drawn0.refl _ | apply Drawn0.step)⟩
  case round =>
    obtain ⟨y, rfl, HA, ⟨m, rfl⟩⟩ := hrel
    obtain ⟨hy0, hy1, ho, hk⟩ := HA.out
    clear HA
    have HO := Aside0.mk ho
    have hx := HB.out.at_ y hy0 hy1
    have hby := HT.out.bytes y hy0 hy1
    clear ho
    by_cases hnb : isBlank (rd L y)
    · as_aux_lemma =>
        have HP := Aside0.mk (HO.out.trans (blank_out (q := q) (ph := .val) HT.out rfl hy0 hy1 hnb []))
        have hin := HT.out.inside (x := y) hy0 hy1 (by unfold isBlank at hnb; omega)
        obtain _ | g0 := gk
        · exfalso; omega
        rcases hnb with h | h | h | h
        all_goals
          rw [h] at hx
          clear h hby
          go_wp2_with fail
          go_roundg g0
          case measure => omega
          case rel => exact ⟨y + 1, rfl, ⟨by omega, by omega, HP.out, by omega⟩, by repeat (first | exact Drawn0.refl _ | apply Drawn0.step)⟩
    by_cases c1 : rd L y = 123 ∨ rd L y = 91
    · as_aux_lemma =>
        have HLAB : Aside0 (Lab q L (out q L .val [] x) y 0 [] (resL 0)) := ⟨HO.out.symm, .inr c1⟩
        rcases c1 with h | h
        all_goals
          rw [h] at hx
          clear h hby hnb
          go_wp2_with fail
          with_reducible refine (maxLevel n _ (by omega) (by omega)).mono ?_
          rintro e w1 ⟨mx, rfl, hmx, hb1⟩
          have HB1 := Aside0.mk (belowD hb1)
          clear hb1
          go_wp2_with fail
          with_reducible refine (skipFast q ad c L y 0 0 0 mx 0 y [] (out q L .val [] x) _ hy0 (HB.out.below HB1.out) (HGL.out.below HB1.out) hmx (Int.le_refl _) hy1 (by omega) rep_nil (.inl rfl) HLAB.out).mono ?_
          rintro e w3 ⟨⟨m3, rfl⟩, x2, lev2, obj2, st2, res2, ev2, rfl, hx2, hx3, hl2, hrep2, hev2⟩
          have HREP2 := Aside0.mk hrep2
          have HEV2 := Aside0.mk hev2
          have HB2 : Aside0 (Below w.heap.size w (w1.drewN m3)) := ⟨pw_below_drewN HB1.out _⟩
          clear hrep2 hev2
          by_cases hv : ev2 = 0
          · subst hv
            have HO : Aside0 (out q L .val [] x = .done x2) := ⟨by
              rcases HEV2.out with ⟨_, h⟩ | ⟨h, _⟩ | ⟨h, _⟩ | ⟨h, _⟩ | ⟨h, _⟩
              · exact h
              all_goals omega⟩
            go_wp2_with fail
            go_ret2
            exact ⟨HB2.out, .inl ⟨x2, HO.out, rfl⟩⟩
          · have f1 : (ev2 == 0) = false := beq_eq_false_iff_ne.mpr hv
            clear hv
            go_wp2_with fail
            with_reducible refine (skipGrammarEvent q H88.out ad c L x2 n lev2 obj2 res2 ev2 mx st2 _ _ (HG.out.below HB2.out) (HB.out.below HB2.out) (by omega) hx3 HREP2.out (by omega) hn (by omega) HEV2.out).mono ?_
            rintro e w4 ⟨hb, ⟨d, hd, rfl⟩ | ⟨s, v, hs, hv, rfl⟩⟩
            · have HB4 := Aside0.mk (below_step HB2.out hb)
              have HO2 := Aside0.mk hd
              clear hb hd
              go_wp2_with fail
              go_ret2
              exact ⟨HB4.out, .inl ⟨d, HO2.out, rfl⟩⟩
            · have HB4 := Aside0.mk (below_step HB2.out hb)
              have HO2 := Aside0.mk hs
              have HV := Aside0.mk hv
              clear hb hs hv
              go_wp2_with fail
              go_ret2
              exact ⟨HB4.out, .inr ⟨s, v, HO2.out, HV.out, rfl⟩⟩
    by_cases c2 : rd L y = 34
    · as_aux_lemma =>
        have HV := Aside0.mk (HO.out.trans (val_text (q := q) (st := []) HT.out hy0 hy1 c2).1)
        have hin := HT.out.inside (x := y) hy0 hy1 (by omega)
        have H34 := Aside0.mk c2
        rw [c2] at hx
        clear hby hnb c1 c2
        go_wp2_with fail
        with_reducible refine (skipString q ad c L y _ (HG.out.drewN _) (HB.out.drewN _) hy0 hy1 H34.out).mono ?_
        rintro e w2 ⟨hb, ⟨d, hends, hd0, hd1, rfl⟩ | ⟨s, v, hbad, ⟨s', g, rfl, hp⟩, rfl⟩⟩
        · have HB2 := Aside0.mk (belowD hb)
          have HO2 := Aside0.mk (HV.out.trans (hends []))
          clear hb hends
          go_wp2_with fail
          go_ret2
          exact ⟨HB2.out, .inl ⟨d, HO2.out, rfl⟩⟩
        · have HB2 := Aside0.mk (belowD hb)
          have HS := Aside0.mk (hbad [])
          have HO2 := Aside0.mk (HV.out.trans (hbad []))
          clear hb hbad hp
          go_wp2_with fail
          with_reducible refine (stringError q ad c L y _ s _ (HG.out.below HB2.out) (HB.out.below HB2.out) hy0 (by omega) HS.out).mono ?_
          rintro e w3 ⟨v, rfl, hv, hb⟩
          have HV3 := Aside0.mk hv
          have HB3 := Aside0.mk (below_step HB2.out hb)
          clear hv hb
          go_wp2_with fail
          go_ret2
          exact ⟨HB3.out, .inr ⟨s, v, HO2.out, HV3.out, rfl⟩⟩
    by_cases c3 : 49 ≤ rd L y ∧ rd L y ≤ 57
    · as_aux_lemma =>
        have hdg : isDig (rd L y) := by unfold isDig; omega
        have hin := dig_next HT.out hy0 hy1 hdg
        have HV := Aside0.mk (show Same q L .val y .whole (y + 1) from val_dig (q := q) HT.out hy0 hy1 hdg (by omega))
        have h9 : rd L y = 49 ∨ rd L y = 50 ∨ rd L y = 51 ∨ rd L y = 52 ∨ rd L y = 53 ∨ rd L y = 54 ∨ rd L y = 55 ∨ rd L y = 56 ∨ rd L y = 57 := by omega
        clear hdg c1 c2 c3 hnb hby
        rcases h9 with h9 | h9 | h9 | h9 | h9 | h9 | h9 | h9 | h9
        all_goals
          rw [h9] at hx
          clear h9
          go_wp2_with fail
          go_loopg [1] (L.length) (fun kq v1 w' => ∃ (p : Int), v1 = .int .i64 p ∧ Aside0 (y + 1 ≤ p ∧ p < L.length ∧ (∀ k, y + 1 ≤ k → k < p → isDig (rd L k)) ∧ (L.length : Int) ≤ p + kq) ∧ Drawn0 w w')
          case atStart => exact ⟨y + 1, rfl, ⟨Int.le_refl _, by omega, fun k h1 h2 => by omega, by omega⟩, by repeat (first | exact Drawn0.refl _ | apply Drawn0.step)⟩
          case round =>
            obtain ⟨p, rfl, HA, ⟨m2, rfl⟩⟩ := hrel
            obtain ⟨hp0, hp1, hp2, hp3⟩ := HA.out
            clear HA
            have HP2 := Aside0.mk hp2
            clear hp2
            have hbp := HT.out.bytes p (by omega) hp1
            have hxp := HB.out.at_ p (by omega) hp1
            by_cases ci : isDig (rd L p)
            · have hin2 := dig_next HT.out (by omega) hp1 ci
              have HCI := Aside0.mk ci
              have hci : 48 ≤ rd L p ∧ rd L p ≤ 57 := ci
              clear ci
              obtain _ | g1 := gk
              · exfalso; omega
              go_wp2_with fail
              go_roundg g1
              case measure => omega
              case rel => exact ⟨p + 1, rfl, ⟨by omega, by omega, fun k h1 h2 => if hk : k = p then by rw [hk]; exact HCI.out else HP2.out k h1 (by omega), by omega⟩, by repeat (first | exact Drawn0.refl _ | apply Drawn0.step)⟩
            · have HNI := Aside0.mk ci
              have hci : rd L p < 48 ∨ 57 < rd L p := by unfold isDig at ci; omega
              have HRUN := Aside0.mk (show RunTo isDig L (y + 1) p from ⟨hp0, hp1, HP2.out, ci⟩)
              have HS := Aside0.mk (show Same q L .val y .whole p from HV.out.trans (whole_digs HT.out (by omega) HRUN.out))
              clear ci HP2
              by_cases cp : rd L p = 46 ∨ rd L p = 101 ∨ rd L p = 69
              · rcases cp with cp | cp | cp
                all_goals
                  rw [cp] at hxp
                  clear cp hbp hci
                  go_wp2_with fail
                  with_reducible refine (rest_whole q ad c L y p _ (HG.out.drewN _) (HB.out.drewN _) (by omega) hp1 HNI.out).mono ?_
                  rintro e w2 (⟨d, hd0, hd1, hends, rfl, hb⟩ | ⟨s, v, hbad, rfl, hv, hb⟩)
                  · have HB2 := Aside0.mk (belowD hb)
                    have HO2 := Aside0.mk ((HO.out.trans (HS.out [])).trans (hends []))
                    clear hb hends
                    go_wp2_with fail
                    go_ret2
                    exact ⟨HB2.out, .inl ⟨d, HO2.out, rfl⟩⟩
                  · have HB2 := Aside0.mk (belowD hb)
                    have HO2 := Aside0.mk ((HO.out.trans (HS.out [])).trans (hbad []))
                    have HV2 := Aside0.mk hv
                    clear hb hbad hv
                    go_wp2_with fail
                    go_ret2
                    exact ⟨HB2.out, .inr ⟨s, v, HO2.out, HV2.out, rfl⟩⟩
              · have g1 : (rd L p == 46) = false := beq_eq_false_iff_ne.mpr (by omega)
                have g2 : (rd L p == 101) = false := beq_eq_false_iff_ne.mpr (by omega)
                have g3 : (rd L p == 69) = false := beq_eq_false_iff_ne.mpr (by omega)
                have HEND := Aside0.mk (HO.out.trans (HS.out.ends (whole_ends HT.out (by omega) hp1 HNI.out (by omega) (by omega) (by omega)) []))
                clear cp
                go_wp2_with fail
                go_ret2
                exact ⟨(by repeat (first | exact Below.refl _ _ | apply pw_below_drewN)), .inl ⟨_, HEND.out, rfl⟩⟩
    by_cases c4 : rd L y = 45 ∨ rd L y = 48
    · as_aux_lemma =>
        have HNUM := Aside0.mk (show rd L y = 45 ∨ isDig (rd L y) by unfold isDig; omega)
        rcases c4 with h | h
        all_goals
          rw [h] at hx
          clear h hby hnb c1 c2 c3
          go_wp2_with fail
          with_reducible refine (skipNumber q ad c L y _ (HG.out.drewN _) (HB.out.drewN _) hy0 hy1 HNUM.out).mono ?_
          rintro e w2 (⟨d, hd0, hd1, hends, rfl, hb⟩ | ⟨s, v, hbad, rfl, hv, hb⟩)
          · have HB2 := Aside0.mk (belowD hb)
            have HO2 := Aside0.mk (HO.out.trans (hends []))
            clear hb hends
            go_wp2_with fail
            go_ret2
            exact ⟨HB2.out, .inl ⟨d, HO2.out, rfl⟩⟩
          · have HB2 := Aside0.mk (belowD hb)
            have HO2 := Aside0.mk (HO.out.trans (hbad []))
            have HV2 := Aside0.mk hv
            clear hb hbad hv
            go_wp2_with fail
            go_ret2
            exact ⟨HB2.out, .inr ⟨s, v, HO2.out, HV2.out, rfl⟩⟩
    by_cases l1 : rd L y = 116
    · as_aux_lemma =>
        have cc := l1
        clear l1 c1 c2 c3 c4 hby
        have hv := val_t (q := q) (st := []) HT.out hy0 hy1 cc
        have HV := Aside0.mk (HO.out.trans hv.1)
        have HC := Aside0.mk cc
        have hlt0 := hv.2
        rw [cc] at hx
        clear hv cc hnb
        have x1 := HB.out.at_ (y + 1) (by omega) (by omega)
        by_cases m1 : rd L (y + 1) = 114
        rotate_left
        · have HM := Aside0.mk (show Mis L y lTrue 1 from ⟨by decide, by decide, by omega, fun j h1 h2 => by
            obtain h := (show False by omega)
            exact h.elim, m1⟩)
          have f1 : (rd L (y + 1) == 114) = false := beq_eq_false_iff_ne.mpr m1
          have f2 : (rd L (y + 1) != 114) = true := bne_iff_ne.mpr m1
          have HF := Aside0.mk (HO.out.trans (mis_true (q := q) (st := []) HT.out hy0 hy1 HC.out HM.out))
          clear m1
          go_wp2_with fail
          with_reducible refine (litTrue q ad c L y 1 _ (HG.out.drewN _) (HB.out.drewN _) hy0 HM.out).mono ?_
          rintro e w2 ⟨v, rfl, hv, hb⟩
          have HV2 := Aside0.mk hv
          have HB2 := Aside0.mk (belowD hb)
          clear hv hb
          go_wp2_with fail
          go_ret2
          exact ⟨HB2.out, .inr ⟨_, v, HF.out, HV2.out, rfl⟩⟩
        have M1 := Aside0.mk m1
        rw [m1] at x1
        have hlt1 : y + 1 + 1 < L.length := by have := HT.out.inside (x := y + 1) (by omega) (by omega) (by omega); omega
        clear m1
        have x2 := HB.out.at_ (y + 2) (by omega) (by omega)
        by_cases m2 : rd L (y + 2) = 117
        rotate_left
        · have HM := Aside0.mk (show Mis L y lTrue 2 from ⟨by decide, by decide, by omega, fun j h1 h2 => by
            obtain rfl := (show j = 1 by omega)
            all_goals first | exact M1.out, m2⟩)
          have f1 : (rd L (y + 2) == 117) = false := beq_eq_false_iff_ne.mpr m2
          have f2 : (rd L (y + 2) != 117) = true := bne_iff_ne.mpr m2
          have HF := Aside0.mk (HO.out.trans (mis_true (q := q) (st := []) HT.out hy0 hy1 HC.out HM.out))
          clear m2
          go_wp2_with fail
          with_reducible refine (litTrue q ad c L y 2 _ (HG.out.drewN _) (HB.out.drewN _) hy0 HM.out).mono ?_
          rintro e w2 ⟨v, rfl, hv, hb⟩
          have HV2 := Aside0.mk hv
          have HB2 := Aside0.mk (belowD hb)
          clear hv hb
          go_wp2_with fail
          go_ret2
          exact ⟨HB2.out, .inr ⟨_, v, HF.out, HV2.out, rfl⟩⟩
        have M2 := Aside0.mk m2
        rw [m2] at x2
        have hlt2 : y + 2 + 1 < L.length := by have := HT.out.inside (x := y + 2) (by omega) (by omega) (by omega); omega
        clear m2
        have x3 := HB.out.at_ (y + 3) (by omega) (by omega)
        by_cases m3 : rd L (y + 3) = 101
        rotate_left
        · have HM := Aside0.mk (show Mis L y lTrue 3 from ⟨by decide, by decide, by omega, fun j h1 h2 => by
            obtain rfl | rfl := (show j = 1 ∨ j = 2 by omega)
            all_goals first | exact M1.out | exact M2.out, m3⟩)
          have f1 : (rd L (y + 3) == 101) = false := beq_eq_false_iff_ne.mpr m3
          have f2 : (rd L (y + 3) != 101) = true := bne_iff_ne.mpr m3
          have HF := Aside0.mk (HO.out.trans (mis_true (q := q) (st := []) HT.out hy0 hy1 HC.out HM.out))
          clear m3
          go_wp2_with fail
          with_reducible refine (litTrue q ad c L y 3 _ (HG.out.drewN _) (HB.out.drewN _) hy0 HM.out).mono ?_
          rintro e w2 ⟨v, rfl, hv, hb⟩
          have HV2 := Aside0.mk hv
          have HB2 := Aside0.mk (belowD hb)
          clear hv hb
          go_wp2_with fail
          go_ret2
          exact ⟨HB2.out, .inr ⟨_, v, HF.out, HV2.out, rfl⟩⟩
        have M3 := Aside0.mk m3
        rw [m3] at x3
        have hlt3 : y + 3 + 1 < L.length := by have := HT.out.inside (x := y + 3) (by omega) (by omega) (by omega); omega
        clear m3
        have HEND := Aside0.mk (show out q L .val [] x = .done (y + 4) by
          rw [HV.out]
          rw [(word_next (q := q) (st := []) (l := lTrue) (k := 1) HT.out (x := y + 1) (by omega) (by omega) (by decide) M1.out (by decide)).1, show y + 1 + 1 = y + 2 by omega]
          rw [(word_next (q := q) (st := []) (l := lTrue) (k := 2) HT.out (x := y + 2) (by omega) (by omega) (by decide) M2.out (by decide)).1, show y + 2 + 1 = y + 3 by omega]
          rw [(word_last (q := q) (st := []) (l := lTrue) (k := 3) HT.out (x := y + 3) (by omega) (by omega) (by decide) M3.out (by decide)).1]
          rw [show y + 3 + 1 = y + 4 by omega]
          rfl)
        go_wp2_with fail
        go_ret2
        exact ⟨(by repeat (first | exact Below.refl _ _ | apply pw_below_drewN)), .inl ⟨_, HEND.out, rfl⟩⟩
    by_cases l2 : rd L y = 102
    · as_aux_lemma =>
        have cc := l2
        clear l2 c1 c2 c3 c4 hby l1
        have hv := val_f (q := q) (st := []) HT.out hy0 hy1 cc
        have HV := Aside0.mk (HO.out.trans hv.1)
        have HC := Aside0.mk cc
        have hlt0 := hv.2
        rw [cc] at hx
        clear hv cc hnb
        have x1 := HB.out.at_ (y + 1) (by omega) (by omega)
        by_cases m1 : rd L (y + 1) = 97
        rotate_left
        · have HM := Aside0.mk (show Mis L y lFalse 1 from ⟨by decide, by decide, by omega, fun j h1 h2 => by
            obtain h := (show False by omega)
            exact h.elim, m1⟩)
          have f1 : (rd L (y + 1) == 97) = false := beq_eq_false_iff_ne.mpr m1
          have f2 : (rd L (y + 1) != 97) = true := bne_iff_ne.mpr m1
          have HF := Aside0.mk (HO.out.trans (mis_false (q := q) (st := []) HT.out hy0 hy1 HC.out HM.out))
          clear m1
          go_wp2_with fail
          with_reducible refine (litFalse q ad c L y 1 _ (HG.out.drewN _) (HB.out.drewN _) hy0 HM.out).mono ?_
          rintro e w2 ⟨v, rfl, hv, hb⟩
          have HV2 := Aside0.mk hv
          have HB2 := Aside0.mk (belowD hb)
          clear hv hb
          go_wp2_with fail
          go_ret2
          exact ⟨HB2.out, .inr ⟨_, v, HF.out, HV2.out, rfl⟩⟩
        have M1 := Aside0.mk m1
        rw [m1] at x1
        have hlt1 : y + 1 + 1 < L.length := by have := HT.out.inside (x := y + 1) (by omega) (by omega) (by omega); omega
        clear m1
        have x2 := HB.out.at_ (y + 2) (by omega) (by omega)
        by_cases m2 : rd L (y + 2) = 108
        rotate_left
        · have HM := Aside0.mk (show Mis L y lFalse 2 from ⟨by decide, by decide, by omega, fun j h1 h2 => by
            obtain rfl := (show j = 1 by omega)
            all_goals first | exact M1.out, m2⟩)
          have f1 : (rd L (y + 2) == 108) = false := beq_eq_false_iff_ne.mpr m2
          have f2 : (rd L (y + 2) != 108) = true := bne_iff_ne.mpr m2
          have HF := Aside0.mk (HO.out.trans (mis_false (q := q) (st := []) HT.out hy0 hy1 HC.out HM.out))
          clear m2
          go_wp2_with fail
          with_reducible refine (litFalse q ad c L y 2 _ (HG.out.drewN _) (HB.out.drewN _) hy0 HM.out).mono ?_
          rintro e w2 ⟨v, rfl, hv, hb⟩
          have HV2 := Aside0.mk hv
          have HB2 := Aside0.mk (belowD hb)
          clear hv hb
          go_wp2_with fail
          go_ret2
          exact ⟨HB2.out, .inr ⟨_, v, HF.out, HV2.out, rfl⟩⟩
        have M2 := Aside0.mk m2
        rw [m2] at x2
        have hlt2 : y + 2 + 1 < L.length := by have := HT.out.inside (x := y + 2) (by omega) (by omega) (by omega); omega
        clear m2
        have x3 := HB.out.at_ (y + 3) (by omega) (by omega)
        by_cases m3 : rd L (y + 3) = 115
        rotate_left
        · have HM := Aside0.mk (show Mis L y lFalse 3 from ⟨by decide, by decide, by omega, fun j h1 h2 => by
            obtain rfl | rfl := (show j = 1 ∨ j = 2 by omega)
            all_goals first | exact M1.out | exact M2.out, m3⟩)
          have f1 : (rd L (y + 3) == 115) = false := beq_eq_false_iff_ne.mpr m3
          have f2 : (rd L (y + 3) != 115) = true := bne_iff_ne.mpr m3
          have HF := Aside0.mk (HO.out.trans (mis_false (q := q) (st := []) HT.out hy0 hy1 HC.out HM.out))
          clear m3
          go_wp2_with fail
          with_reducible refine (litFalse q ad c L y 3 _ (HG.out.drewN _) (HB.out.drewN _) hy0 HM.out).mono ?_
          rintro e w2 ⟨v, rfl, hv, hb⟩
          have HV2 := Aside0.mk hv
          have HB2 := Aside0.mk (belowD hb)
          clear hv hb
          go_wp2_with fail
          go_ret2
          exact ⟨HB2.out, .inr ⟨_, v, HF.out, HV2.out, rfl⟩⟩
        have M3 := Aside0.mk m3
        rw [m3] at x3
        have hlt3 : y + 3 + 1 < L.length := by have := HT.out.inside (x := y + 3) (by omega) (by omega) (by omega); omega
        clear m3
        have x4 := HB.out.at_ (y + 4) (by omega) (by omega)
        by_cases m4 : rd L (y + 4) = 101
        rotate_left
        · have HM := Aside0.mk (show Mis L y lFalse 4 from ⟨by decide, by decide, by omega, fun j h1 h2 => by
            obtain rfl | rfl | rfl := (show j = 1 ∨ j = 2 ∨ j = 3 by omega)
            all_goals first | exact M1.out | exact M2.out | exact M3.out, m4⟩)
          have f1 : (rd L (y + 4) == 101) = false := beq_eq_false_iff_ne.mpr m4
          have f2 : (rd L (y + 4) != 101) = true := bne_iff_ne.mpr m4
          have HF := Aside0.mk (HO.out.trans (mis_false (q := q) (st := []) HT.out hy0 hy1 HC.out HM.out))
          clear m4
          go_wp2_with fail
          with_reducible refine (litFalse q ad c L y 4 _ (HG.out.drewN _) (HB.out.drewN _) hy0 HM.out).mono ?_
          rintro e w2 ⟨v, rfl, hv, hb⟩
          have HV2 := Aside0.mk hv
          have HB2 := Aside0.mk (belowD hb)
          clear hv hb
          go_wp2_with fail
          go_ret2
          exact ⟨HB2.out, .inr ⟨_, v, HF.out, HV2.out, rfl⟩⟩
        have M4 := Aside0.mk m4
        rw [m4] at x4
        have hlt4 : y + 4 + 1 < L.length := by have := HT.out.inside (x := y + 4) (by omega) (by omega) (by omega); omega
        clear m4
        have HEND := Aside0.mk (show out q L .val [] x = .done (y + 5) by
          rw [HV.out]
          rw [(word_next (q := q) (st := []) (l := lFalse) (k := 1) HT.out (x := y + 1) (by omega) (by omega) (by decide) M1.out (by decide)).1, show y + 1 + 1 = y + 2 by omega]
          rw [(word_next (q := q) (st := []) (l := lFalse) (k := 2) HT.out (x := y + 2) (by omega) (by omega) (by decide) M2.out (by decide)).1, show y + 2 + 1 = y + 3 by omega]
          rw [(word_next (q := q) (st := []) (l := lFalse) (k := 3) HT.out (x := y + 3) (by omega) (by omega) (by decide) M3.out (by decide)).1, show y + 3 + 1 = y + 4 by omega]
          rw [(word_last (q := q) (st := []) (l := lFalse) (k := 4) HT.out (x := y + 4) (by omega) (by omega) (by decide) M4.out (by decide)).1]
          rw [show y + 4 + 1 = y + 5 by omega]
          rfl)
        go_wp2_with fail
        go_ret2
        exact ⟨(by repeat (first | exact Below.refl _ _ | apply pw_below_drewN)), .inl ⟨_, HEND.out, rfl⟩⟩
    by_cases l3 : rd L y = 110
    · as_aux_lemma =>
        have cc := l3
        clear l3 c1 c2 c3 c4 hby l1 l2
        have hv := val_n (q := q) (st := []) HT.out hy0 hy1 cc
        have HV := Aside0.mk (HO.out.trans hv.1)
        have HC := Aside0.mk cc
        have hlt0 := hv.2
        rw [cc] at hx
        clear hv cc hnb
        have x1 := HB.out.at_ (y + 1) (by omega) (by omega)
        by_cases m1 : rd L (y + 1) = 117
        rotate_left
        · have HM := Aside0.mk (show Mis L y lNull 1 from ⟨by decide, by decide, by omega, fun j h1 h2 => by
            obtain h := (show False by omega)
            exact h.elim, m1⟩)
          have f1 : (rd L (y + 1) == 117) = false := beq_eq_false_iff_ne.mpr m1
          have f2 : (rd L (y + 1) != 117) = true := bne_iff_ne.mpr m1
          have HF := Aside0.mk (HO.out.trans (mis_null (q := q) (st := []) HT.out hy0 hy1 HC.out HM.out))
          clear m1
          go_wp2_with fail
          with_reducible refine (litNull q ad c L y 1 _ (HG.out.drewN _) (HB.out.drewN _) hy0 HM.out).mono ?_
          rintro e w2 ⟨v, rfl, hv, hb⟩
          have HV2 := Aside0.mk hv
          have HB2 := Aside0.mk (belowD hb)
          clear hv hb
          go_wp2_with fail
          go_ret2
          exact ⟨HB2.out, .inr ⟨_, v, HF.out, HV2.out, rfl⟩⟩
        have M1 := Aside0.mk m1
        rw [m1] at x1
        have hlt1 : y + 1 + 1 < L.length := by have := HT.out.inside (x := y + 1) (by omega) (by omega) (by omega); omega
        clear m1
        have x2 := HB.out.at_ (y + 2) (by omega) (by omega)
        by_cases m2 : rd L (y + 2) = 108
        rotate_left
        · have HM := Aside0.mk (show Mis L y lNull 2 from ⟨by decide, by decide, by omega, fun j h1 h2 => by
            obtain rfl := (show j = 1 by omega)
            all_goals first | exact M1.out, m2⟩)
          have f1 : (rd L (y + 2) == 108) = false := beq_eq_false_iff_ne.mpr m2
          have f2 : (rd L (y + 2) != 108) = true := bne_iff_ne.mpr m2
          have HF := Aside0.mk (HO.out.trans (mis_null (q := q) (st := []) HT.out hy0 hy1 HC.out HM.out))
          clear m2
          go_wp2_with fail
          with_reducible refine (litNull q ad c L y 2 _ (HG.out.drewN _) (HB.out.drewN _) hy0 HM.out).mono ?_
          rintro e w2 ⟨v, rfl, hv, hb⟩
          have HV2 := Aside0.mk hv
          have HB2 := Aside0.mk (belowD hb)
          clear hv hb
          go_wp2_with fail
          go_ret2
          exact ⟨HB2.out, .inr ⟨_, v, HF.out, HV2.out, rfl⟩⟩
        have M2 := Aside0.mk m2
        rw [m2] at x2
        have hlt2 : y + 2 + 1 < L.length := by have := HT.out.inside (x := y + 2) (by omega) (by omega) (by omega); omega
        clear m2
        have x3 := HB.out.at_ (y + 3) (by omega) (by omega)
        by_cases m3 : rd L (y + 3) = 108
        rotate_left
        · have HM := Aside0.mk (show Mis L y lNull 3 from ⟨by decide, by decide, by omega, fun j h1 h2 => by
            obtain rfl | rfl := (show j = 1 ∨ j = 2 by omega)
            all_goals first | exact M1.out | exact M2.out, m3⟩)
          have f1 : (rd L (y + 3) == 108) = false := beq_eq_false_iff_ne.mpr m3
          have f2 : (rd L (y + 3) != 108) = true := bne_iff_ne.mpr m3
          have HF := Aside0.mk (HO.out.trans (mis_null (q := q) (st := []) HT.out hy0 hy1 HC.out HM.out))
          clear m3
          go_wp2_with fail
          with_reducible refine (litNull q ad c L y 3 _ (HG.out.drewN _) (HB.out.drewN _) hy0 HM.out).mono ?_
          rintro e w2 ⟨v, rfl, hv, hb⟩
          have HV2 := Aside0.mk hv
          have HB2 := Aside0.mk (belowD hb)
          clear hv hb
          go_wp2_with fail
          go_ret2
          exact ⟨HB2.out, .inr ⟨_, v, HF.out, HV2.out, rfl⟩⟩
        have M3 := Aside0.mk m3
        rw [m3] at x3
        have hlt3 : y + 3 + 1 < L.length := by have := HT.out.inside (x := y + 3) (by omega) (by omega) (by omega); omega
        clear m3
        have HEND := Aside0.mk (show out q L .val [] x = .done (y + 4) by
          rw [HV.out]
          rw [(word_next (q := q) (st := []) (l := lNull) (k := 1) HT.out (x := y + 1) (by omega) (by omega) (by decide) M1.out (by decide)).1, show y + 1 + 1 = y + 2 by omega]
          rw [(word_next (q := q) (st := []) (l := lNull) (k := 2) HT.out (x := y + 2) (by omega) (by omega) (by decide) M2.out (by decide)).1, show y + 2 + 1 = y + 3 by omega]
          rw [(word_last (q := q) (st := []) (l := lNull) (k := 3) HT.out (x := y + 3) (by omega) (by omega) (by decide) M3.out (by decide)).1]
          rw [show y + 3 + 1 = y + 4 by omega]
          rfl)
        go_wp2_with fail
        go_ret2
        exact ⟨(by repeat (first | exact Below.refl _ _ | apply pw_below_drewN)), .inl ⟨_, HEND.out, rfl⟩⟩
    have HBAD := Aside0.mk (HO.out.trans (val_bad (q := q) (st := []) HT.out hy0 hy1 hnb (by omega) (by omega) c2 (by omega) (by unfold isDig; omega) l1 l2 l3))
    have e1 : (rd L y == 32) = false := beq_eq_false_iff_ne.mpr fun h => hnb (by rw [h]; decide)
    have e2 : (rd L y == 9) = false := beq_eq_false_iff_ne.mpr fun h => hnb (by rw [h]; decide)
    have e3 : (rd L y == 10) = false := beq_eq_false_iff_ne.mpr fun h => hnb (by rw [h]; decide)
    have e4 : (rd L y == 13) = false := beq_eq_false_iff_ne.mpr fun h => hnb (by rw [h]; decide)
    have d123 : (rd L y == 123) = false := beq_eq_false_iff_ne.mpr (by omega)
    have d91 : (rd L y == 91) = false := beq_eq_false_iff_ne.mpr (by omega)
    have d34 : (rd L y == 34) = false := beq_eq_false_iff_ne.mpr (by omega)
    have d48 : (rd L y == 48) = false := beq_eq_false_iff_ne.mpr (by omega)
    have d49 : (rd L y == 49) = false := beq_eq_false_iff_ne.mpr (by omega)
    have d50 : (rd L y == 50) = false := beq_eq_false_iff_ne.mpr (by omega)
    have d51 : (rd L y == 51) = false := beq_eq_false_iff_ne.mpr (by omega)
    have d52 : (rd L y == 52) = false := beq_eq_false_iff_ne.mpr (by omega)
    have d53 : (rd L y == 53) = false := beq_eq_false_iff_ne.mpr (by omega)
    have d54 : (rd L y == 54) = false := beq_eq_false_iff_ne.mpr (by omega)
    have d55 : (rd L y == 55) = false := beq_eq_false_iff_ne.mpr (by omega)
    have d56 : (rd L y == 56) = false := beq_eq_false_iff_ne.mpr (by omega)
    have d57 : (rd L y == 57) = false := beq_eq_false_iff_ne.mpr (by omega)
    have d45 : (rd L y == 45) = false := beq_eq_false_iff_ne.mpr (by omega)
    have d116 : (rd L y == 116) = false := beq_eq_false_iff_ne.mpr (by omega)
    have d102 : (rd L y == 102) = false := beq_eq_false_iff_ne.mpr (by omega)
    have d110 : (rd L y == 110) = false := beq_eq_false_iff_ne.mpr (by omega)
    clear hnb c1 c2 c3 c4 l1 l2 l3 hby
    as_aux_lemma =>
      go_wp2_with fail
      with_reducible refine (syntaxErrorAt q ad c L y 0 _ (HG.out.drewN _) (HB.out.drewN _) hy0 hy1).mono ?_
      rintro e w2 ⟨v, rfl, hv, hb⟩
      have HV := Aside0.mk hv
      have HB2 := Aside0.mk (belowD hb)
      clear hv hb
      go_wp2_with fail
      go_ret2
      exact ⟨HB2.out, .inr ⟨_, v, HBAD.out, HV.out, rfl⟩⟩
end Go.Proofs.YtfkagnpdapkaaaaDoor.Err
