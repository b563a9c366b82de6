/- skipFast: what it answers, from wherever it resumes. -/
import Derived.Test.YtfkagnpdapkaaaaDoorFastD
import Derived.Test.YtfkagnpdapkaaaaDoorScanS
import Derived.Test.YtfkagnpdapkaaaaDoorScC
namespace Go.Proofs.YtfkagnpdapkaaaaDoor.Err
open Go.RowKit Go.Proofs.YtfkagnpdapkaaaaDoorW.PrintWords Go.Proofs.YtfkagnpdapkaaaaDoorW.PrintLast Go.Proofs.YtfkagnpdapkaaaaDoorW.PrintMore
open Go.Proofs.YtfkagnpdapkaaaaDoor.Tab Go.Proofs.YtfkagnpdapkaaaaDoor.QF
set_option linter.unusedVariables false
theorem results_tmp5 {fn : Func} {t u v x y : Tmp} (h : fn.results = #[.tmp t, .tmp u, .tmp v, .tmp x, .tmp y]) (tmps : Array Value) (P : Program) (w : World) :
    (results fn tmps).run P w = .ok (.tuple #[tmps.getD t undef, tmps.getD u undef, tmps.getD v undef, tmps.getD x undef, tmps.getD y undef]) w := by
  simp [results, h]
/-- What skipFast answers. -/
def FastAns (q : ByteArray → ByteArray) (L : List Int) (mx K X0 : Int) (O : Out) (w0 : World) (e : Ending) (w : World) : Prop :=
  Drawn0 w0 w ∧ ∃ x lev obj st res ev, e = .returned (.tuple #[.int .i64 x, .int .i64 lev, .int .u64 obj, .int .u8 res, .int .u8 ev]) ∧ X0 ≤ x ∧ x < L.length ∧ lev - x ≤ K ∧ Rep lev obj st ∧ Ev q L O mx x lev st res ev
theorem rs_ans {q : ByteArray → ByteArray} {L : List Int} {mx K X0 : Int} {O : Out} {w0 w : World} {a : Act} (h : RS q L mx K X0 O w0 a w) : bodyPost Tryd.prog Tryd.f114 (FastAns q L mx K X0 O w0) .ret a w := by
  obtain ⟨hd, hw, x, lev, obj, st, res, ev, h1, h2, h3, h4, h5, h6⟩ := h
  refine bodyPost_ret (results_tmp5 rfl _ _ _) hd ⟨hw, x, lev, obj, st, res, ev, ?_, h6⟩
  rw [h1, h2, h3, h4, h5]
/-- The label at which skipFast resumes. -/
def resL : Int → Nat
  | 0 => 2
  | 1 => 0
  | _ => 1
theorem find_at {q : ByteArray → ByteArray} {ad : Addr} {c : Nat} {L : List Int} {mx K X0 : Int} {O : Out} {w0 w : World} {n l : Nat} {a : Act} (h : JS q ad c L mx K X0 O w0 n l a w) : ∃ Y, findLabel (scopeOf Tryd.f114) l = some (Code.skip.seq Y) := by
  obtain ⟨_, x, lev, obj, cb, _, _, _, _, st, _, _, _, _, _, hl⟩ := h
  match l, hl with
  | 0, _ => exact ⟨_, rfl⟩
  | 1, _ => exact ⟨_, rfl⟩
  | 2, _ => exact ⟨_, rfl⟩
  | 3, _ => exact ⟨_, rfl⟩
  | 4, _ => exact ⟨_, rfl⟩
/-- Each pass, whichever label. -/
theorem pass_ (q : ByteArray → ByteArray) (ad : Addr) (c : Nat) (L : List Int) (mx K X0 : Int) (O : Out) (w0 : World) (hX0 : 0 ≤ X0) (hB : Buf w0 ad c L) (hGL : Glob w0) (hmx : mx ≤ 64) (n l : Nat) (a : Act) (w : World) (Q : Exit → Act → World → Prop)
    (hJ : JS q ad c L mx K X0 O w0 n l a w) (hR : ∀ a' w', RS q L mx K X0 O w0 a' w' → Q .ret a' w') :
    ∃ rest, findLabel (scopeOf Tryd.f114) l = some rest ∧ rest.wp Tryd.prog (jumps (fun l' a' w' => ∃ n', n' < n ∧ JS q ad c L mx K X0 O w0 n' l' a' w') Q) a w := by
  obtain ⟨Y, hY⟩ := find_at hJ
  refine ⟨_, hY, wp_seq (wp_skip ?_)⟩
  have hQ : ∀ l' a' w', (∃ n', n' < n ∧ JS q ad c L mx K X0 O w0 n' l' a' w') → jumps (fun l' a' w' => ∃ n', n' < n ∧ JS q ad c L mx K X0 O w0 n' l' a' w') Q (.goto l') a' w' := fun l' a' w' h => h
  have hR' : ∀ a' w', RS q L mx K X0 O w0 a' w' → jumps (fun l' a' w' => ∃ n', n' < n ∧ JS q ad c L mx K X0 O w0 n' l' a' w') Q .ret a' w' := hR
  have hl : l = 0 ∨ l = 1 ∨ l = 2 ∨ l = 3 ∨ l = 4 := by
    obtain ⟨_, x, lev, obj, cb, _, _, _, _, st, _, _, _, _, _, hl⟩ := hJ
    match l, hl with
    | 0, _ => omega
    | 1, _ => omega
    | 2, _ => omega
    | 3, _ => omega
    | 4, _ => omega
  rcases hl with rfl | rfl | rfl | rfl | rfl
  · exact pass0 q ad c L mx K X0 O w0 hX0 hB Y hY n a w _ hJ hQ hR'
  · exact pass1 q ad c L mx K X0 O w0 hX0 hB Y hY n a w _ hJ hQ hR'
  · exact pass2 q ad c L mx K X0 O w0 hX0 hB hGL hmx Y hY n a w _ hJ hQ hR'
  · exact pass3 q ad c L mx K X0 O w0 hX0 hB Y hY n a w _ hJ hQ hR'
  · exact pass4 q ad c L mx K X0 O w0 hX0 hB hGL Y hY n a w _ hJ hQ hR'
set_option maxRecDepth 100000 in
set_option maxHeartbeats 8000000 in
theorem skipFast (q : ByteArray → ByteArray) (ad : Addr) (c : Nat) (L : List Int) (x lev obj res mx K X0 : Int) (st : List Br) (O : Out) (w : World) (hX0 : 0 ≤ X0) (hB : Buf w ad c L) (hGL : Glob w) (hmx : mx ≤ 64)
    (h0 : X0 ≤ x) (h1 : x < L.length) (hk : lev - x ≤ K) (hrep : Rep lev obj st) (hres : res = 0 ∨ res = 1 ∨ res = 2) (hlab : Lab q L O x 0 st (resL res)) :
    Calls Tryd.prog 114 #[.slice (some ad) L.length c, .int .i64 x, .int .i64 lev, .int .u64 obj, .int .u8 res, .int .i64 mx] w (FastAns q L mx K X0 O w) := by
  have HLAB := Aside0.mk hlab
  have HREP := Aside0.mk hrep
  have HB := Aside0.mk hB
  have HGL := Aside0.mk hGL
  have hsm := hB.small
  clear hlab hrep hB hGL
  obtain ⟨Qx, hQx⟩ : ∃ Qx, Qx = bodyPost Tryd.prog Tryd.f114 (FastAns q L mx K X0 O w) := ⟨_, rfl⟩
  have HR : Aside0 (∀ a' w', RS q L mx K X0 O w a' w' → Qx .ret a' w') := ⟨fun a' w' h => by rw [hQx]; exact rs_ans h⟩
  have HP : Aside0 (∀ n l a' w', JS q ad c L mx K X0 O w n l a' w' → ∃ rest, findLabel (scopeOf Tryd.f114) l = some rest ∧ rest.wp Tryd.prog (jumps (fun l' a' w' => ∃ n', n' < n ∧ JS q ad c L mx K X0 O w n' l' a' w') Qx) a' w') :=
    ⟨fun n l a' w' h => pass_ q ad c L mx K X0 O w hX0 HB.out HGL.out hmx n l a' w' Qx h HR.out⟩
  rcases hres with rfl | rfl | rfl
  all_goals
    go_enter Tryd.func114, Tryd.ntmps114
    rw [← hQx]
    clear hQx
    refine wp_seq ?_
    go_wp2_with fail
    refine wp_scope_labels (JS q ad c L mx K X0 O w) ?_ HP.out
    obtain ⟨Qj, hQj⟩ : ∃ Qj, Qj = jumps (fun l a w' => ∃ n, JS q ad c L mx K X0 O w n l a w') Qx := ⟨_, rfl⟩
    rw [← hQj]
    have HJ : Aside0 (∀ l a w', (∃ n, JS q ad c L mx K X0 O w n l a w') → Qj (.goto l) a w') := ⟨fun l a w' h => by rw [hQj]; exact h⟩
    have HRJ : Aside0 (∀ a' w', RS q L mx K X0 O w a' w' → Qj .ret a' w') := ⟨fun a' w' h => by rw [hQj]; exact HR.out a' w' h⟩
    clear hQj HR HP
    go_upto_region 7 with (fail)
  · rename_i KL hKL
    refine wp_label (hKL _ _ ?_)
    refine pass2 q ad c L mx K X0 O w hX0 HB.out HGL.out hmx _ rfl (2 * (L.length - x)).toNat _ w Qj ?_ (fun l a' w' h => by obtain ⟨n', _, h6⟩ := h; exact HJ.out l a' w' ⟨n', h6⟩) HRJ.out
    exact ⟨⟨rfl, rfl, rfl, rfl, rfl, rfl, Drawn0.refl _⟩, x, lev, obj, 0, rfl, rfl, rfl, rfl, st, h0, h1, hk, HREP.out, by simp; omega, HLAB.out⟩
  · exact wp_goto (HJ.out _ _ _ ⟨(2 * (L.length - x)).toNat, ⟨rfl, rfl, rfl, rfl, rfl, rfl, Drawn0.refl _⟩, x, lev, obj, 0, rfl, rfl, rfl, rfl, st, h0, h1, hk, HREP.out, by simp; omega, HLAB.out⟩)
  · exact wp_goto (HJ.out _ _ _ ⟨(2 * (L.length - x)).toNat, ⟨rfl, rfl, rfl, rfl, rfl, rfl, Drawn0.refl _⟩, x, lev, obj, 0, rfl, rfl, rfl, rfl, st, h0, h1, hk, HREP.out, by simp; omega, HLAB.out⟩)
end Go.Proofs.YtfkagnpdapkaaaaDoor.Err
/- skipStringByScan and skipString: the place behind a text, or an error. -/
namespace Go.Proofs.YtfkagnpdapkaaaaDoor.Err
open Go.RowKit Go.Proofs.YtfkagnpdapkaaaaDoorW.PrintWords Go.Proofs.YtfkagnpdapkaaaaDoorW.PrintLast Go.Proofs.YtfkagnpdapkaaaaDoorW.PrintMore
open Go.Proofs.YtfkagnpdapkaaaaDoor.Tab Go.Proofs.YtfkagnpdapkaaaaDoor.QF
set_option linter.unusedVariables false
/-- What skipString answers. -/
def StrAns (q : ByteArray → ByteArray) (L : List Int) (cur : Int) (w : World) (e : Ending) (w' : World) : Prop :=
  Below w.heap.size w w' ∧ ((∃ d, Ends q L .text (cur + 1) d ∧ cur + 1 < d ∧ d < L.length ∧ e = .returned (.tuple #[.int .i64 d, .nilIface])) ∨
    ∃ s v, Bad q L .text (cur + 1) s ∧ (∃ s' g, v = .iface 86 (.pointer (some ⟨g, 0, none⟩)) ∧ PT w' g s') ∧ e = .returned (.tuple #[.int .i64 0, v]))
set_option maxRecDepth 100000 in
set_option maxHeartbeats 4000000 in
theorem skipStringByScan (q : ByteArray → ByteArray) (ad : Addr) (c : Nat) (L : List Int) (cur : Int) (w : World) (hG : G q w) (hB : Buf w ad c L) (h0 : 0 ≤ cur) (h1 : cur < L.length) (h34 : rd L cur = 34) :
    Calls Tryd.prog 110 #[.slice (some ad) L.length c, .int .i64 cur] w (StrAns q L cur w) := by
  have hsm := hB.small
  have HB := Aside0.mk hB
  have HG := Aside0.mk hG
  have H34 := Aside0.mk h34
  clear hB hG h34
  go_enter Tryd.func110, Tryd.ntmps110
  go_wp2_with fail
  with_reducible refine (scanString q _ ad c L cur _ (HG.out.below ?b1) (HB.out.below ?b2) h0 h1 H34.out).mono ?_
  case b1 => exact below_alloc (Below.refl _ _) _
  case b2 => exact below_alloc (Below.refl _ _) _
  rintro e w1 ⟨hb, ⟨d, fe, hi, hends, hd0, hd1, -, -, rfl⟩ | ⟨s, v, hbad, ⟨s', g, rfl, hp⟩, rfl⟩⟩
  · have HBB := Aside0.mk (below_step (below_alloc (Below.refl _ w) _) hb)
    have HE := Aside0.mk hends
    clear hb hends
    go_wp2_with fail
    go_ret2
    exact ⟨below_alloc HBB.out _, .inl ⟨d, HE.out, hd0, hd1, rfl⟩⟩
  · have HBB := Aside0.mk (below_step (below_alloc (Below.refl _ w) _) hb)
    have HE := Aside0.mk hbad
    have HP := Aside0.mk hp
    clear hb hbad hp
    go_wp2_with fail
    go_ret2
    exact ⟨below_alloc HBB.out _, .inr ⟨s, _, HE.out, ⟨s', g, rfl, HP.out.below (below_alloc (Below.refl _ _) _)⟩, rfl⟩⟩
set_option maxRecDepth 100000 in
set_option maxHeartbeats 4000000 in
theorem skipString (q : ByteArray → ByteArray) (ad : Addr) (c : Nat) (L : List Int) (cur : Int) (w : World) (hG : G q w) (hB : Buf w ad c L) (h0 : 0 ≤ cur) (h1 : cur < L.length) (h34 : rd L cur = 34) :
    Calls Tryd.prog 83 #[.slice (some ad) L.length c, .int .i64 cur] w (StrAns q L cur w) := by
  have hsm := hB.small
  have HT := Aside0.mk hB.txt
  have HB := Aside0.mk hB
  have HG := Aside0.mk hG
  have HGL := Aside0.mk hG.tab
  have H34 := Aside0.mk h34
  have hin := HT.out.inside (x := cur) h0 h1 (by omega)
  have HSC : Aside0 (∀ n, Calls Tryd.prog 110 #[.slice (some ad) L.length c, .int .i64 cur] (w.drewN n) (StrAns q L cur w)) := ⟨fun n => (skipStringByScan q ad c L cur (w.drewN n) (HG.out.drewN n) (HB.out.drewN n) h0 h1 h34).mono fun e w' h => ⟨belowD h.1, h.2⟩⟩
  clear hB hG h34
  go_enter Tryd.func83, Tryd.ntmps83
  go_wp2_with fail
  go_loopg [8] (L.length) (fun kq v8 w' => ∃ (p : Int), v8 = .int .i64 p ∧ Aside0 (cur + 1 ≤ p ∧ p ≤ L.length ∧ (∀ k, cur + 1 ≤ k → k < p → Plain (rd L k)) ∧ (L.length : Int) ≤ p + kq) ∧ Drawn0 w w')
  case atStart => exact ⟨cur + 1, rfl, ⟨Int.le_refl _, by omega, fun k h1 h2 => by omega, by omega⟩, by repeat (first | exact Drawn0.refl _ | apply Drawn0.step)⟩
  case round =>
    obtain ⟨p, rfl, HA, ⟨m2, rfl⟩⟩ := hrel
    obtain ⟨hp0, hp1, hp2, hp3⟩ := HA.out
    clear HA
    have HP2 := Aside0.mk hp2
    clear hp2
    by_cases c8 : p + 8 ≤ L.length
    · obtain ⟨W, S, hW, hS, hor⟩ := word_at HT.out p (by omega) c8
      have HW := Aside0.mk hW
      have HS := Aside0.mk hS
      clear hW hS
      rcases hor with ⟨rfl, hpl⟩ | ⟨hS0, j, hj0, hj8, htz, hpl, hsp⟩
      · have HPL := Aside0.mk hpl
        clear hpl
        obtain _ | g0 := gk
        · exfalso; omega
        go_wp2_with fail
        with_reducible refine (gojson_load64.calls (some ad) c L p W _ (HB.out.below ?b).C HB.out.cap HW.out).mono ?_
        case b => exact (by repeat (first | exact Below.refl _ _ | exact HBW.out | apply pw_below_drewN))
        rintro e w2 ⟨rfl, ⟨m3, rfl⟩⟩
        go_wp2_with fail
        with_reducible refine (gojson_keyEndBytes.calls W 0 _ HS.out).mono ?_
        rintro e w2 ⟨rfl, ⟨m4, rfl⟩⟩
        go_wp2_with fail
        go_roundg g0
        case measure => omega
        case rel => exact ⟨p + 8, rfl, ⟨by omega, c8, fun k h1 h2 => if h : k < p then HP2.out k h1 h else HPL.out k (by omega) h2, by omega⟩, by repeat (first | exact Drawn0.refl _ | apply Drawn0.step)⟩
      · have HPL := Aside0.mk (show ∀ k, cur + 1 ≤ k → k < p + j → Plain (rd L k) from fun k h1 h2 => if h : k < p then HP2.out k h1 h else hpl k (by omega) h2)
        have HTZ := Aside0.mk htz
        have HSP := Aside0.mk hsp
        have f0 : (S == 0) = false := beq_eq_false_iff_ne.mpr hS0
        have f00 : (S != 0) = true := bne_iff_ne.mpr hS0
        have hdiv : Int.tdiv (8 * j + 7) 8 = j := by rw [Int.tdiv_eq_ediv_of_nonneg (by omega)]; omega
        have hdiv2 : (8 * j + 7) / 8 = j := by omega
        have hx : ∀ n, (w.drewN n).cell? (ad.add (p + j).toNat) = some (.int .u8 (rd L (p + j))) := fun n => (HB.out.drewN n).at_ (p + j) (by omega) (by omega)
        clear hpl htz hsp HP2 hS0
        by_cases cq : rd L (p + j) = 34
        · have HQ34 := Aside0.mk cq
          have hin2 := HT.out.inside (x := p + j) (by omega) (by omega) (by omega)
          rw [cq] at hx
          clear cq
          go_wp2_with fail
          with_reducible refine (gojson_load64.calls (some ad) c L p W _ (HB.out.below ?b).C HB.out.cap HW.out).mono ?_
          case b => exact (by repeat (first | exact Below.refl _ _ | exact HBW.out | apply pw_below_drewN))
          rintro e w2 ⟨rfl, ⟨m3, rfl⟩⟩
          go_wp2_with fail
          with_reducible refine (gojson_keyEndBytes.calls W S _ HS.out).mono ?_
          rintro e w2 ⟨rfl, ⟨m4, rfl⟩⟩
          go_wp2_with fail
          with_reducible refine (tz64.calls S (8 * j + 7) _ (HGL.out.below ?b) HTZ.out).mono ?_
          case b => exact (by repeat (first | exact Below.refl _ _ | exact HBW.out | apply pw_below_drewN))
          rintro e w2 ⟨rfl, ⟨m5, rfl⟩⟩
          go_wp2_with fail
          go_ret2
          exact ⟨by repeat (first | exact Below.refl _ _ | apply pw_below_drewN), .inl ⟨p + j + 1, fun st => (plain_out HT.out (by omega) (by omega) (by omega) HPL.out st).trans (txt_quote HT.out (by omega) (by omega) HQ34.out), by omega, by omega, rfl⟩⟩
        · have f1 : (rd L (p + j) == 34) = false := beq_eq_false_iff_ne.mpr cq
          clear cq
          go_wp2_with fail
          with_reducible refine (gojson_load64.calls (some ad) c L p W _ (HB.out.below ?b).C HB.out.cap HW.out).mono ?_
          case b => exact (by repeat (first | exact Below.refl _ _ | exact HBW.out | apply pw_below_drewN))
          rintro e w2 ⟨rfl, ⟨m3, rfl⟩⟩
          go_wp2_with fail
          with_reducible refine (gojson_keyEndBytes.calls W S _ HS.out).mono ?_
          rintro e w2 ⟨rfl, ⟨m4, rfl⟩⟩
          go_wp2_with fail
          with_reducible refine (tz64.calls S (8 * j + 7) _ (HGL.out.below ?b) HTZ.out).mono ?_
          case b => exact (by repeat (first | exact Below.refl _ _ | exact HBW.out | apply pw_below_drewN))
          rintro e w2 ⟨rfl, ⟨m5, rfl⟩⟩
          go_wp2_with fail
          with_reducible refine (HSC.out _).mono ?_
          rintro e w3 ⟨hb, ⟨d, hends, hd0, hd1, rfl⟩ | ⟨s, v, hbad, hv, rfl⟩⟩
          · have HBB := Aside0.mk hb
            have HE := Aside0.mk hends
            clear hb hends hx
            go_wp2_with fail
            go_ret2
            exact ⟨HBB.out, .inl ⟨d, HE.out, hd0, hd1, rfl⟩⟩
          · have HBB := Aside0.mk hb
            have HE := Aside0.mk hbad
            have HV := Aside0.mk hv
            clear hb hbad hv hx
            go_wp2_with fail
            go_ret2
            exact ⟨HBB.out, .inr ⟨s, _, HE.out, HV.out, rfl⟩⟩
    · clear HP2
      go_wp2_with fail
      with_reducible refine (HSC.out _).mono ?_
      rintro e w3 ⟨hb, ⟨d, hends, hd0, hd1, rfl⟩ | ⟨s, v, hbad, hv, rfl⟩⟩
      · have HBB := Aside0.mk hb
        have HE := Aside0.mk hends
        clear hb hends
        go_wp2_with fail
        go_ret2
        exact ⟨HBB.out, .inl ⟨d, HE.out, hd0, hd1, rfl⟩⟩
      · have HBB := Aside0.mk hb
        have HE := Aside0.mk hbad
        have HV := Aside0.mk hv
        clear hb hbad hv
        go_wp2_with fail
        go_ret2
        exact ⟨HBB.out, .inr ⟨s, _, HE.out, HV.out, rfl⟩⟩
end Go.Proofs.YtfkagnpdapkaaaaDoor.Err
/- skipFastError: the fault of the byte at which skipFast stopped; what comes of words. -/
namespace Go.Proofs.YtfkagnpdapkaaaaDoor.Err
open Go.RowKit Go.Proofs.YtfkagnpdapkaaaaDoorW.PrintWords Go.Proofs.YtfkagnpdapkaaaaDoorW.PrintLast Go.Proofs.YtfkagnpdapkaaaaDoorW.PrintMore
open Go.Proofs.YtfkagnpdapkaaaaDoor.Tab Go.Proofs.YtfkagnpdapkaaaaDoor.QF
set_option linter.unusedVariables false
theorem outL_range (q : ByteArray → ByteArray) : ∀ (l : List Int) (ph : Ph) (st : List Br) (i d : Int), outL q l ph st i = .done d → i ≤ d ∧ d ≤ i + l.length
  | [], ph, st, i, d, h => by
    unfold outL at h
    split at h
    · cases h; simp
    · cases h
  | c :: r, ph, st, i, d, h => by
    unfold outL at h
    rw [List.length_cons]
    split at h
    · split at h
      · cases h; omega
      · cases h
    · split at h
      · split at h
        · cases h; omega
        · cases h; omega
      · have := outL_range q r _ _ _ _ h
        omega
theorem out_range {q : ByteArray → ByteArray} {L : List Int} {ph : Ph} {st : List Br} {i d : Int} (h0 : 0 ≤ i) (h1 : i < L.length) (h : out q L ph st i = .done d) : i ≤ d ∧ d < L.length := by
  have := outL_range q _ ph st i d h
  rw [List.length_drop, List.length_take] at this
  omega
/-- What a skip answers: the place behind the value, or its fault. -/
def Told (O : Out) (w : World) (e : Ending) (w' : World) : Prop :=
  Below w.heap.size w w' ∧ ((∃ d, O = .done d ∧ e = .returned (.tuple #[.int .i64 d, .nilIface])) ∨ ∃ s v, O = .fault s ∧ EV w' v s ∧ e = .returned (.tuple #[.int .i64 0, v]))
theorem Told.from {O : Out} {w W w' : World} {e : Ending} (hb : Below w.heap.size w W) (h : Told O W e w') : Told O w e w' := ⟨below_step hb h.1, h.2⟩
section
variable {q : ByteArray → ByteArray} {L : List Int} {x : Int} {st : List Br} {l : List Int} {k : Nat}
/-- Words of letters alone. -/
structure Letters (l : List Int) : Prop where
  nz : ∀ j, j < l.length → l.getD j 0 ≠ 0 ∧ l.getD j 0 ≠ 32
theorem letTrue : Letters lTrue := ⟨by decide⟩
theorem letFalse : Letters lFalse := ⟨by decide⟩
theorem letNull : Letters lNull := ⟨by decide⟩
theorem mis_word (hT : Txt L) (hl : Letters l) (hm : Mis L x l k) (h0 : 0 ≤ x) : ∀ n j : Nat, j + n = k → 1 ≤ j → out q L (.word l j) st (x + j) = .fault (scalarF q L (x + k) (litWhat q l k)) := by
  intro n
  have hin := hm.in_
  have hlt := hm.lt
  induction n with
  | zero =>
    intro j hj h1
    obtain rfl : j = k := by omega
    exact word_bad hT (by omega) hin (hl.nz j hlt).2 hm.ne
  | succ n ih =>
    intro j hj h1
    rw [(word_next (q := q) (st := st) hT (by omega) (by omega) (hl.nz j (by omega)).1 (hm.all j h1 (by omega)) (by omega)).1]
    have := ih (j + 1) (by omega) (by omega)
    rw [show x + (j : Int) + 1 = x + ((j + 1 : Nat) : Int) by omega]
    exact this
theorem mis_true (hT : Txt L) (h0 : 0 ≤ x) (h1 : x < L.length) (hc : rd L x = 116) (hm : Mis L x lTrue k) : out q L .val st x = .fault (scalarF q L (x + k) (litWhat q lTrue k)) :=
  (val_t hT h0 h1 hc).1.trans (mis_word hT letTrue hm h0 (k - 1) 1 (by have := hm.one; omega) (Nat.le_refl _))
theorem mis_false (hT : Txt L) (h0 : 0 ≤ x) (h1 : x < L.length) (hc : rd L x = 102) (hm : Mis L x lFalse k) : out q L .val st x = .fault (scalarF q L (x + k) (litWhat q lFalse k)) :=
  (val_f hT h0 h1 hc).1.trans (mis_word hT letFalse hm h0 (k - 1) 1 (by have := hm.one; omega) (Nat.le_refl _))
theorem mis_null (hT : Txt L) (h0 : 0 ≤ x) (h1 : x < L.length) (hc : rd L x = 110) (hm : Mis L x lNull k) : out q L .val st x = .fault (scalarF q L (x + k) (litWhat q lNull k)) :=
  (val_n hT h0 h1 hc).1.trans (mis_word hT letNull hm h0 (k - 1) 1 (by have := hm.one; omega) (Nat.le_refl _))
end
/-- The facts of a byte at which skipFast stops as invalid. -/
def Inv4 (q : ByteArray → ByteArray) (L : List Int) (O : Out) (x : Int) (st : List Br) (res : Int) : Prop :=
  ¬ isBlank (rd L x) ∧ (
    (res = 0 ∧ st ≠ [] ∧ O = out q L .val st x ∧ rd L x ≠ 34 ∧ rd L x ≠ 123 ∧ rd L x ≠ 91 ∧ rd L x ≠ 45 ∧ ¬ isDig (rd L x) ∧ (rd L x = 116 → ∃ k, Mis L x lTrue k) ∧ (rd L x = 102 → ∃ k, Mis L x lFalse k) ∧ (rd L x = 110 → ∃ k, Mis L x lNull k)) ∨
    (res = 1 ∧ ((∃ r, st = .obj :: r ∧ rd L x ≠ 44 ∧ rd L x ≠ 125) ∨ (∃ r, st = .arr :: r ∧ rd L x ≠ 44 ∧ rd L x ≠ 93)) ∧ O = out q L (closed st).1 (closed st).2 x) ∨
    (res = 2 ∧ (∃ r, st = .obj :: r) ∧ rd L x ≠ 58 ∧ O = out q L .colon st x) ∨
    (res = 3 ∧ (∃ r, st = .obj :: r) ∧ rd L x ≠ 34 ∧ O = out q L .name st x))
set_option maxRecDepth 100000 in
set_option maxHeartbeats 4000000 in
theorem skipFastError (q : ByteArray → ByteArray) (ad : Addr) (c : Nat) (L : List Int) (x lev obj res : Int) (st : List Br) (O : Out) (w : World) (hG : G q w) (hB : Buf w ad c L) (h0 : 0 ≤ x) (h1 : x < L.length) (hrep : Rep lev obj st) (hev : Inv4 q L O x st res) :
    Calls Tryd.prog 143 #[.slice (some ad) L.length c, .int .i64 x, .int .i64 lev, .int .u64 obj, .int .u8 res] w fun e w' => ∃ s, O = .fault s ∧ Gives w s e w' := by
  have hT := hB.txt
  have hx := hB.at_ x h0 h1
  have hby := hB.byte x h0 h1
  have hsm := hB.small
  have HB := Aside0.mk hB
  have HG := Aside0.mk hG
  have HSE := fun k w' hb => syntaxErrorAt q ad c L x k w' (HG.out.below (w' := w') hb) (HB.out.below (w' := w') hb) h0 h1
  have HSE := Aside0.mk HSE
  obtain ⟨hnb, hcase⟩ := hev
  rcases hcase with ⟨rfl, hne, hO, c1, c2, c3, c4, c5, c6, c7, c8⟩ | ⟨rfl, hk, hO⟩ | ⟨rfl, ⟨r, rfl⟩, hc, hO⟩ | ⟨rfl, ⟨r, rfl⟩, hc, hO⟩
  · by_cases t1 : rd L x = 116
    · obtain ⟨k, hm⟩ := c6 t1
      have HO := Aside0.mk (hO.trans (mis_true hT h0 h1 t1 hm))
      have HM := Aside0.mk hm
      rw [t1] at hx
      clear hT hB hG hO c1 c2 c3 c4 c5 c6 c7 c8 hnb hm hne hby t1 hrep
      go_enter Tryd.func143, Tryd.ntmps143
      go_wp2_with fail
      with_reducible refine (litTrue q ad c L x k _ HG.out HB.out h0 HM.out).mono ?_
      rintro e w2 ⟨v, rfl, hv, hb⟩
      have HV := Aside0.mk hv
      have HBB := Aside0.mk hb
      clear hv hb
      go_wp2_with fail
      go_ret
      exact ⟨_, HO.out, _, rfl, HV.out, HBB.out⟩
    by_cases t2 : rd L x = 102
    · obtain ⟨k, hm⟩ := c7 t2
      have HO := Aside0.mk (hO.trans (mis_false hT h0 h1 t2 hm))
      have HM := Aside0.mk hm
      rw [t2] at hx
      clear hT hB hG hO c1 c2 c3 c4 c5 c6 c7 c8 hnb hm hne hby t1 t2 hrep
      go_enter Tryd.func143, Tryd.ntmps143
      go_wp2_with fail
      with_reducible refine (litFalse q ad c L x k _ HG.out HB.out h0 HM.out).mono ?_
      rintro e w2 ⟨v, rfl, hv, hb⟩
      have HV := Aside0.mk hv
      have HBB := Aside0.mk hb
      clear hv hb
      go_wp2_with fail
      go_ret
      exact ⟨_, HO.out, _, rfl, HV.out, HBB.out⟩
    by_cases t3 : rd L x = 110
    · obtain ⟨k, hm⟩ := c8 t3
      have HO := Aside0.mk (hO.trans (mis_null hT h0 h1 t3 hm))
      have HM := Aside0.mk hm
      rw [t3] at hx
      clear hT hB hG hO c1 c2 c3 c4 c5 c6 c7 c8 hnb hm hne hby t1 t2 t3 hrep
      go_enter Tryd.func143, Tryd.ntmps143
      go_wp2_with fail
      with_reducible refine (litNull q ad c L x k _ HG.out HB.out h0 HM.out).mono ?_
      rintro e w2 ⟨v, rfl, hv, hb⟩
      have HV := Aside0.mk hv
      have HBB := Aside0.mk hb
      clear hv hb
      go_wp2_with fail
      go_ret
      exact ⟨_, HO.out, _, rfl, HV.out, HBB.out⟩
    have HO := Aside0.mk (hO.trans (val_bad hT h0 h1 hnb c2 c3 c1 c4 c5 t1 t2 t3))
    have f1 : (rd L x == 116) = false := beq_eq_false_iff_ne.mpr t1
    have f2 : (rd L x == 102) = false := beq_eq_false_iff_ne.mpr t2
    have f3 : (rd L x == 110) = false := beq_eq_false_iff_ne.mpr t3
    clear hT hB hG hO c1 c2 c3 c4 c5 c6 c7 c8 hnb hne hby t1 t2 t3 hrep
    go_enter Tryd.func143, Tryd.ntmps143
    go_wp2_with fail
    with_reducible refine (HSE.out 0 _ (Below.refl _ _)).mono ?_
    rintro e w2 ⟨v, rfl, hv, hb⟩
    have HV := Aside0.mk hv
    have HBB := Aside0.mk hb
    clear hv hb
    go_wp2_with fail
    go_ret
    exact ⟨_, HO.out, _, rfl, HV.out, HBB.out⟩
  · rcases hk with ⟨r, rfl, c1, c2⟩ | ⟨r, rfl, c1, c2⟩
    · have hbt := bit_top hrep
      have hbt2 : (bits BinOp.and IntKind.u64 obj (IntKind.u64.wrap (2 ^ (lev.toNat - 1))) != 0) = true := hbt
      have hl1 : 1 ≤ lev ∧ lev ≤ 64 := by have h1 := hrep.len; have h2 := hrep.few; rw [List.length_cons] at h1 h2; omega
      have HO := Aside0.mk (hO.trans (air_bad (q := q) (ph := .memb) (st := .obj :: r) 3 false hT rfl h0 h1 (by unfold between; rw [if_neg hnb]; show (if rd L x = 44 then _ else _) = _; rw [if_neg c1, if_neg c2]; rfl) ⟨fun h => (Bool.false_ne_true h).elim, fun h => by omega⟩))
      clear hT hB hG hO c1 c2 hnb hby hbt hrep
      go_enter Tryd.func143, Tryd.ntmps143
      go_wp2_with fail
      with_reducible refine (HSE.out 3 _ (Below.refl _ _)).mono ?_
      rintro e w2 ⟨v, rfl, hv, hb⟩
      have HV := Aside0.mk hv
      have HBB := Aside0.mk hb
      clear hv hb
      go_wp2_with fail
      go_ret
      exact ⟨_, HO.out, _, rfl, HV.out, HBB.out⟩
    · have hbt := bit_top hrep
      have hbt2 : (bits BinOp.and IntKind.u64 obj (IntKind.u64.wrap (2 ^ (lev.toNat - 1))) != 0) = false := hbt
      have hl1 : 1 ≤ lev ∧ lev ≤ 64 := by have h1 := hrep.len; have h2 := hrep.few; rw [List.length_cons] at h1 h2; omega
      have HO := Aside0.mk (hO.trans (air_bad (q := q) (ph := .item) (st := .arr :: r) 4 false hT rfl h0 h1 (by unfold between; rw [if_neg hnb]; show (if rd L x = 44 then _ else _) = _; rw [if_neg c1, if_neg c2]; rfl) ⟨fun h => (Bool.false_ne_true h).elim, fun h => by omega⟩))
      clear hT hB hG hO c1 c2 hnb hby hbt hrep
      go_enter Tryd.func143, Tryd.ntmps143
      go_wp2_with fail
      with_reducible refine (HSE.out 4 _ (Below.refl _ _)).mono ?_
      rintro e w2 ⟨v, rfl, hv, hb⟩
      have HV := Aside0.mk hv
      have HBB := Aside0.mk hb
      clear hv hb
      go_wp2_with fail
      go_ret
      exact ⟨_, HO.out, _, rfl, HV.out, HBB.out⟩
  · have HO := Aside0.mk (hO.trans (air_bad (q := q) (ph := .colon) (st := .obj :: r) 2 false hT rfl h0 h1 (by unfold between; rw [if_neg hnb]; show (if rd L x = 58 then _ else _) = _; rw [if_neg hc]; rfl) ⟨fun h => (Bool.false_ne_true h).elim, fun h => by omega⟩))
    clear hT hB hG hO hc hnb hby hrep
    go_enter Tryd.func143, Tryd.ntmps143
    go_wp2_with fail
    with_reducible refine (HSE.out 2 _ (Below.refl _ _)).mono ?_
    rintro e w2 ⟨v, rfl, hv, hb⟩
    have HV := Aside0.mk hv
    have HBB := Aside0.mk hb
    clear hv hb
    go_wp2_with fail
    go_ret
    exact ⟨_, HO.out, _, rfl, HV.out, HBB.out⟩
  · have HO := Aside0.mk (hO.trans (air_bad (q := q) (ph := .name) (st := .obj :: r) 1 false hT rfl h0 h1 (by unfold between; rw [if_neg hnb]; show nameOf q _ _ = _; unfold nameOf; rw [if_neg hc]; rfl) ⟨fun h => (Bool.false_ne_true h).elim, fun h => by omega⟩))
    clear hT hB hG hO hc hnb hby hrep
    go_enter Tryd.func143, Tryd.ntmps143
    go_wp2_with fail
    with_reducible refine (HSE.out 1 _ (Below.refl _ _)).mono ?_
    rintro e w2 ⟨v, rfl, hv, hb⟩
    have HV := Aside0.mk hv
    have HBB := Aside0.mk hb
    clear hv hb
    go_wp2_with fail
    go_ret
    exact ⟨_, HO.out, _, rfl, HV.out, HBB.out⟩
end Go.Proofs.YtfkagnpdapkaaaaDoor.Err
/- skipGrammarEvent, skipGrammarFast, skipRestOfObject and skipValue, over what skipGrammar answers. -/
namespace Go.Proofs.YtfkagnpdapkaaaaDoor.Err
open Go.RowKit Go.Proofs.YtfkagnpdapkaaaaDoorW.PrintWords Go.Proofs.YtfkagnpdapkaaaaDoorW.PrintLast Go.Proofs.YtfkagnpdapkaaaaDoorW.PrintMore
open Go.Proofs.YtfkagnpdapkaaaaDoor.Tab Go.Proofs.YtfkagnpdapkaaaaDoor.QF
set_option linter.unusedVariables false
/-- What is said of skipGrammar: the outcome of the value at its place, whatever is open, up to 64 levels at its start. -/
def GramSaid (q : ByteArray → ByteArray) : Prop := ∀ (ad : Addr) (c : Nat) (L : List Int) (x n lev obj : Int) (st : List Br) (w : World), G q w → Buf w ad c L → 0 ≤ x → x < L.length → Rep lev obj st → lev ≤ x → n + L.length - 1 ≤ 10000 → -1 ≤ n →
  Calls Tryd.prog 88 #[.slice (some ad) L.length c, .int .i64 x, .int .i64 n, .int .i64 lev, .int .u64 obj, .int .u8 0] w (Told (out q L .val st x) w)
theorem GramSaid.call {q : ByteArray → ByteArray} (h : GramSaid q) (ad : Addr) (c : Nat) (L : List Int) (x n lev obj : Int) (st : List Br) (w : World) (hG : G q w) (hB : Buf w ad c L) (h0 : 0 ≤ x) (h1 : x < L.length) (hrep : Rep lev obj st) (hl : lev ≤ x) (hn : n + L.length - 1 ≤ 10000) (hn0 : -1 ≤ n) :
    Calls Tryd.prog 88 #[.slice (some ad) L.length c, .int .i64 x, .int .i64 n, .int .i64 lev, .int .u64 obj, .int .u8 0] w (Told (out q L .val st x) w) := h ad c L x n lev obj st w hG hB h0 h1 hrep hl hn hn0
theorem contO_nil (q : ByteArray → ByteArray) (L : List Int) (d : Int) : contO q L [] d = .done d := rfl
theorem num_after {q : ByteArray → ByteArray} {L : List Int} {x d : Int} (hT : Txt L) (h0 : 0 ≤ x) (h1 : x < L.length) (hn : rd L x = 45 ∨ isDig (rd L x)) (hle : x ≤ d) (he : out q L .val [] x = contO q L [] d) : x < d := by
  rw [contO_nil] at he
  have hin := hT.inside h0 h1 (by unfold isDig at hn; omega)
  rcases hn with hc | hc
  · rw [val_minus hT h0 h1 hc []] at he
    have := out_range (by omega) (by omega) he
    omega
  · by_cases hz : rd L x = 48
    · rw [val_zero hT h0 h1 hz []] at he
      have := out_range (by omega) (by omega) he
      omega
    · rw [val_dig hT h0 h1 hc hz []] at he
      have := out_range (by omega) (by omega) he
      omega
theorem maxLevel (n : Int) (w : World) (h0 : -1 ≤ n) (h1 : n ≤ 10000) : Calls Tryd.prog 115 #[.int .i64 n] w fun e w' => ∃ mx, e = .returned (.int .i64 mx) ∧ mx ≤ 64 ∧ Below w.heap.size w w' :=
  (gojson_skipMaxLevel.calls n _ w rfl).mono fun e w' ⟨he, hb⟩ => ⟨_, he, by unfold mn; split <;> omega, hb⟩
theorem ev_range {q : ByteArray → ByteArray} {L : List Int} {O : Out} {mx x lev : Int} {st : List Br} {res ev : Int} (h : Ev q L O mx x lev st res ev) (h4 : ev = 4) : Inv4 q L O x st res := by
  rcases h with ⟨h, _⟩ | ⟨h, _⟩ | ⟨h, _⟩ | ⟨h, _⟩ | ⟨h, h2⟩
  · omega
  · omega
  · omega
  · omega
  · exact h2
set_option maxRecDepth 100000 in
set_option maxHeartbeats 8000000 in
theorem skipGrammarEvent (q : ByteArray → ByteArray) (h88 : GramSaid q) (ad : Addr) (c : Nat) (L : List Int) (x n lev obj res ev mx : Int) (st : List Br) (O : Out) (w : World) (hG : G q w) (hB : Buf w ad c L) (h0 : 0 ≤ x) (h1 : x < L.length) (hrep : Rep lev obj st) (hl : lev ≤ x)
    (hn : n + L.length - 1 ≤ 10000) (hn0 : -1 ≤ n) (hev : Ev q L O mx x lev st res ev) :
    Calls Tryd.prog 116 #[.slice (some ad) L.length c, .int .i64 x, .int .i64 n, .int .i64 lev, .int .u64 obj, .int .u8 res, .int .u8 ev] w (Told O w) := by
  have hsm := hB.small
  have hps := hB.pos
  have HT := Aside0.mk hB.txt
  have HB := Aside0.mk hB
  have HG := Aside0.mk hG
  have HREP := Aside0.mk hrep
  have HEV := Aside0.mk hev
  have H88 := Aside0.mk h88
  clear hB hG hrep hev h88
  go_enter Tryd.func116, Tryd.ntmps116
  go_wp2_with fail
  with_reducible refine (maxLevel n _ hn0 (by omega)).mono ?_
  rintro e w1 ⟨mx2, rfl, hmx, hb1⟩
  have HB1 := Aside0.mk hb1
  clear hb1
  go_wp2_with fail
  go_loopg [1, 3, 4, 5, 6] (L.length) (fun kq v1 v3 v4 v5 v6 w' => ∃ (x lev obj res ev mx : Int) (st : List Br), v1 = .int .i64 x ∧ v3 = .int .i64 lev ∧ v4 = .int .u64 obj ∧ v5 = .int .u8 res ∧ v6 = .int .u8 ev ∧ Aside0 (0 ≤ x ∧ x < L.length ∧ lev ≤ x ∧ (L.length : Int) ≤ x + kq ∧ Rep lev obj st ∧ Ev q L O mx x lev st res ev) ∧ Aside0 (Below w.heap.size w w'))
  case atStart => exact ⟨x, lev, obj, res, ev, mx, st, rfl, rfl, rfl, rfl, rfl, ⟨h0, h1, hl, by omega, HREP.out, HEV.out⟩, HB1⟩
  case round =>
    clear HREP HEV HB1
    obtain ⟨x, lev, obj, res, ev, mx, st, rfl, rfl, rfl, rfl, rfl, HA, HBW⟩ := hrel
    obtain ⟨hx0, hx1, hlx, hk, hrep, hev⟩ := HA.out
    clear HA h0 h1 hl
    have HREP := Aside0.mk hrep
    clear hrep
    -- what goes on behind a text or a number
    have HNEXT : Aside0 (∀ (d res : Int) (W : World), Below w.heap.size w W → x < d → d < L.length → (res = 1 ∨ res = 2) → Lab q L O d 0 st (resL res) → Calls Tryd.prog 114 #[.slice (some ad) L.length c, .int .i64 d, .int .i64 lev, .int .u64 obj, .int .u8 res, .int .i64 mx2] W (FastAns q L mx2 0 d O W)) :=
      ⟨fun d res W hb hxd hdl hres hlab => skipFast q ad c L d lev obj res mx2 0 d st O W (by omega) (HB.out.below hb) (HG.out.tab.below hb) hmx (Int.le_refl _) hdl (by omega) HREP.out (by omega) hlab⟩
    rcases hev with ⟨rfl, hO⟩ | ⟨rfl, h34, hr⟩ | ⟨rfl, rfl, hne, hnum, hO⟩ | ⟨rfl, rfl, hdeep, hbr, hO⟩ | ⟨rfl, hinv⟩
    · have HO := Aside0.mk hO
      clear hO
      go_wp2_with fail
      go_ret2
      exact ⟨HBW.out, .inl ⟨x, HO.out, rfl⟩⟩
    · obtain ⟨st', hst', hO, hres, hcont⟩ : ∃ st', out q L .text st' (x + 1) = O ∧ O = out q L .text st' (x + 1) ∧ (res = 1 ∨ res = 2) ∧ ∀ d, contO q L st' d = O → Lab q L O d 0 st (resL res) := by
        rcases hr with ⟨rfl, hne, hO⟩ | ⟨rfl, r, rfl, hO⟩
        · exact ⟨st, hO.symm, hO, .inl rfl, fun d hd => ⟨hne, (contO_out hne d).symm.trans hd⟩⟩
        · exact ⟨.key :: r, hO.symm, hO, .inr rfl, fun d hd => ⟨⟨r, rfl⟩, hd⟩⟩
      clear hr hst'
      have HO := Aside0.mk hO
      have HC := Aside0.mk hcont
      have HR := Aside0.mk hres
      have H34 := Aside0.mk h34
      have hin := HT.out.inside (x := x) hx0 hx1 (by omega)
      clear hO hcont h34 hres
      go_wp2_with fail
      with_reducible refine (skipString q ad c L x _ (HG.out.below HBW.out) (HB.out.below HBW.out) hx0 hx1 H34.out).mono ?_
      rintro e w2 ⟨hb, ⟨d, hends, hd0, hd1, rfl⟩ | ⟨s, v, hbad, ⟨s', g, rfl, hp⟩, rfl⟩⟩
      · have HB2 := Aside0.mk (below_step HBW.out hb)
        have HL := Aside0.mk (HC.out d ((hends st').symm.trans HO.out.symm))
        clear hb hends
        obtain _ | g0 := gk
        · exfalso; omega
        go_wp2_with fail
        with_reducible refine (HNEXT.out d res _ HB2.out (by omega) hd1 HR.out HL.out).mono ?_
        rintro e w3 ⟨⟨m3, rfl⟩, x2, lev2, obj2, st2, res2, ev2, rfl, hx2, hx3, hl2, hrep2, hev2⟩
        have HREP2 := Aside0.mk hrep2
        have HEV2 := Aside0.mk hev2
        clear hrep2 hev2
        go_wp2_with fail
        go_roundg g0
        case measure => omega
        case rel => exact ⟨x2, lev2, obj2, res2, ev2, mx2, st2, rfl, rfl, rfl, rfl, rfl, ⟨by omega, hx3, by omega, by omega, HREP2.out, HEV2.out⟩, ⟨pw_below_drewN HB2.out _⟩⟩
      · have HB2 := Aside0.mk (below_step HBW.out hb)
        have HS := Aside0.mk (hbad [])
        have HO2 := Aside0.mk (HO.out.trans (hbad st'))
        clear hb hbad hp
        go_wp2_with fail
        with_reducible refine (stringError q ad c L x _ s _ (HG.out.below HB2.out) (HB.out.below HB2.out) hx0 (by omega) HS.out).mono ?_
        rintro e w3 ⟨v, rfl, hv, hb⟩
        have HV := Aside0.mk hv
        have HB3 := Aside0.mk (below_step HB2.out hb)
        clear hv hb
        go_wp2_with fail
        go_ret2
        exact ⟨HB3.out, .inr ⟨s, v, HO2.out, HV.out, rfl⟩⟩
    · have HO := Aside0.mk hO
      have HNE := Aside0.mk hne
      have HNUM := Aside0.mk hnum
      clear hO hne hnum
      go_wp2_with fail
      with_reducible refine (skipNumber q ad c L x _ (HG.out.below HBW.out) (HB.out.below HBW.out) hx0 hx1 HNUM.out).mono ?_
      rintro e w2 (⟨d, hd0, hd1, hends, rfl, hb⟩ | ⟨s, v, hbad, rfl, hv, hb⟩)
      · have HB2 := Aside0.mk (below_step HBW.out hb)
        have HL : Aside0 (Lab q L O d 0 st (resL 1)) := ⟨HNE.out, (contO_out HNE.out d).symm.trans ((hends st).symm.trans HO.out.symm)⟩
        have hxd : x < d := num_after HT.out hx0 hx1 HNUM.out hd0 (hends [])
        clear hb hends
        obtain _ | g0 := gk
        · exfalso; omega
        go_wp2_with fail
        with_reducible refine (HNEXT.out d 1 _ HB2.out (by omega) hd1 (.inl rfl) HL.out).mono ?_
        rintro e w3 ⟨⟨m3, rfl⟩, x2, lev2, obj2, st2, res2, ev2, rfl, hx2, hx3, hl2, hrep2, hev2⟩
        have HREP2 := Aside0.mk hrep2
        have HEV2 := Aside0.mk hev2
        clear hrep2 hev2
        go_wp2_with fail
        go_roundg g0
        case measure => omega
        case rel => exact ⟨x2, lev2, obj2, res2, ev2, mx2, st2, rfl, rfl, rfl, rfl, rfl, ⟨by omega, hx3, by omega, by omega, HREP2.out, HEV2.out⟩, ⟨pw_below_drewN HB2.out _⟩⟩
      · have HB2 := Aside0.mk (below_step HBW.out hb)
        have HO2 := Aside0.mk (HO.out.trans (hbad st))
        have HV := Aside0.mk hv
        have hvi : ∃ g, v = .iface 86 (.pointer (some ⟨g, 0, none⟩)) := ⟨_, hv.choose_spec.1⟩
        obtain ⟨g, rfl⟩ := hvi
        clear hb hbad hv
        go_wp2_with fail
        go_ret2
        exact ⟨HB2.out, .inr ⟨s, _, HO2.out, HV.out, rfl⟩⟩
    · have HO := Aside0.mk hO
      clear hO
      go_wp2_with fail
      with_reducible refine (H88.out.call ad c L x n lev obj st _ (HG.out.below HBW.out) (HB.out.below HBW.out) hx0 hx1 HREP.out hlx hn hn0).mono ?_
      rintro e w2 ⟨hb, ⟨d, hd, rfl⟩ | ⟨s, v, hs, hv, rfl⟩⟩
      · have HB2 := Aside0.mk (below_step HBW.out hb)
        have HO2 := Aside0.mk (HO.out.trans hd)
        clear hb hd
        go_wp2_with fail
        go_ret2
        exact ⟨HB2.out, .inl ⟨d, HO2.out, rfl⟩⟩
      · have HB2 := Aside0.mk (below_step HBW.out hb)
        have HO2 := Aside0.mk (HO.out.trans hs)
        have HV := Aside0.mk hv
        clear hb hs hv
        go_wp2_with fail
        go_ret2
        exact ⟨HB2.out, .inr ⟨s, v, HO2.out, HV.out, rfl⟩⟩
    · have HI : Aside0 (Inv4 q L O x st res) := ⟨hinv⟩
      clear hinv
      go_wp2_with fail
      with_reducible refine (skipFastError q ad c L x lev obj res st O _ (HG.out.below HBW.out) (HB.out.below HBW.out) hx0 hx1 HREP.out HI.out).mono ?_
      rintro e w2 ⟨s, hs, v, rfl, hv, hb⟩
      have HB2 := Aside0.mk (below_step HBW.out hb)
      have HO2 := Aside0.mk hs
      have HV := Aside0.mk hv
      clear hb hs hv
      go_wp2_with fail
      go_ret2
      exact ⟨HB2.out, .inr ⟨s, v, HO2.out, HV.out, rfl⟩⟩
set_option maxRecDepth 100000 in
set_option maxHeartbeats 8000000 in
theorem skipGrammarFast (q : ByteArray → ByteArray) (h88 : GramSaid q) (ad : Addr) (c : Nat) (L : List Int) (x n lev obj : Int) (st : List Br) (w : World) (hG : G q w) (hB : Buf w ad c L) (h0 : 0 ≤ x) (h1 : x < L.length) (hrep : Rep lev obj st) (hl : lev ≤ x)
    (hn : n + L.length - 1 ≤ 10000) (hn0 : -1 ≤ n) (hne : st ≠ []) :
    Calls Tryd.prog 113 #[.slice (some ad) L.length c, .int .i64 x, .int .i64 n, .int .i64 lev, .int .u64 obj, .int .u8 1] w (Told (contO q L st x) w) := by
  have hsm := hB.small
  have hps := hB.pos
  have HB := Aside0.mk hB
  have HG := Aside0.mk hG
  have HREP := Aside0.mk hrep
  have HNE := Aside0.mk hne
  have H88 := Aside0.mk h88
  clear hB hG hrep h88 hne
  go_enter Tryd.func113, Tryd.ntmps113
  go_wp2_with fail
  with_reducible refine (maxLevel n _ hn0 (by omega)).mono ?_
  rintro e w1 ⟨mx, rfl, hmx, hb1⟩
  have HB1 := Aside0.mk hb1
  have HL : Aside0 (Lab q L (contO q L st x) x 0 st (resL 1)) := ⟨HNE.out, (contO_out HNE.out x).symm⟩
  clear hb1
  go_wp2_with fail
  with_reducible refine (skipFast q ad c L x lev obj 1 mx 0 x st (contO q L st x) _ h0 (HB.out.below HB1.out) (HG.out.tab.below HB1.out) hmx (Int.le_refl _) h1 (by omega) HREP.out (.inr (.inl rfl)) HL.out).mono ?_
  rintro e w3 ⟨⟨m3, rfl⟩, x2, lev2, obj2, st2, res2, ev2, rfl, hx2, hx3, hl2, hrep2, hev2⟩
  have HREP2 := Aside0.mk hrep2
  have HEV2 := Aside0.mk hev2
  have HB2 : Aside0 (Below w.heap.size w (w1.drewN m3)) := ⟨pw_below_drewN HB1.out _⟩
  clear hrep2 hev2
  by_cases hv : ev2 = 0
  · subst hv
    have HO : Aside0 (contO q L st x = .done x2) := ⟨by
      rcases HEV2.out with ⟨_, h⟩ | ⟨h, _⟩ | ⟨h, _⟩ | ⟨h, _⟩ | ⟨h, _⟩
      · exact h
      all_goals omega⟩
    go_wp2_with fail
    go_ret2
    exact ⟨HB2.out, .inl ⟨x2, HO.out, rfl⟩⟩
  · have f1 : (ev2 == 0) = false := beq_eq_false_iff_ne.mpr hv
    clear hv
    go_wp2_with fail
    with_reducible refine (skipGrammarEvent q H88.out ad c L x2 n lev2 obj2 res2 ev2 mx st2 _ _ (HG.out.below HB2.out) (HB.out.below HB2.out) (by omega) hx3 HREP2.out (by omega) hn hn0 HEV2.out).mono ?_
    rintro e w4 ⟨hb, ⟨d, hd, rfl⟩ | ⟨s, v, hs, hv, rfl⟩⟩
    · have HB4 := Aside0.mk (below_step HB2.out hb)
      have HO2 := Aside0.mk hd
      clear hb hd
      go_wp2_with fail
      go_ret2
      exact ⟨HB4.out, .inl ⟨d, HO2.out, rfl⟩⟩
    · have HB4 := Aside0.mk (below_step HB2.out hb)
      have HO2 := Aside0.mk hs
      have HV := Aside0.mk hv
      clear hb hs hv
      go_wp2_with fail
      go_ret2
      exact ⟨HB4.out, .inr ⟨s, v, HO2.out, HV.out, rfl⟩⟩
end Go.Proofs.YtfkagnpdapkaaaaDoor.Err
/- Levels behind the 64th: their kinds as bits of words in a slice of the call's own. -/
namespace Go.Proofs.YtfkagnpdapkaaaaDoor.Err
open Go.RowKit Go.Proofs.YtfkagnpdapkaaaaDoorW.PrintWords Go.Proofs.YtfkagnpdapkaaaaDoorW.PrintLast Go.Proofs.YtfkagnpdapkaaaaDoorW.PrintMore
open Go.Proofs.YtfkagnpdapkaaaaDoor.Tab Go.Proofs.YtfkagnpdapkaaaaDoor.QF
set_option linter.unusedVariables false
/-- The bit of a level, told from the 64th. -/
def dbit (D : List Int) (j : Nat) : Bool := (D.getD (j / 64) 0).toNat.testBit (j % 64)
/-- A row of words that a call owns. -/
def Row (w0 w : World) (v : Value) (D : List Int) : Prop := w.ownsRow w0.heap.size 35 1 v D.length (nums .u64 D)
theorem Row.below {w0 w w1 : World} {v : Value} {D : List Int} (h : Row w0 w v D) (hb : Below w.heap.size w w1) : Row w0 w1 v D := pw_own_below h hb
theorem Row.reads {w0 w : World} {v : Value} {D : List Int} (h : Row w0 w v D) : ∃ A c, v = .slice A D.length c ∧ Kd.C (Kd.int .u64) w A D.length D ∧ D.length ≤ c := by
  obtain ⟨A, c, e, hr⟩ := own_reads h
  refine ⟨A, c, e, Kd.C_of_reads (d := (0 : Int)) (h1 := fun _ => rfl) hr, ?_⟩
  rcases h.2 with ⟨h1, h2⟩ | ⟨g, cap, cur, h1, _, _, h2, _⟩
  · omega
  · rw [e] at h1
    cases h1
    exact h2
theorem Row.nil (w0 w : World) : Row w0 w (.slice none 0 0) [] := ⟨rfl, .inl ⟨rfl, rfl⟩⟩
/-- Levels and kinds: of the first 64 as bits of a word, of the others as those of a row's words. -/
structure RepD (lev obj : Int) (D : List Int) (st : List Br) : Prop where
  len : lev = st.length
  low : 0 ≤ obj
  high : obj < 18446744073709551616
  words : ∀ x, x ∈ D → 0 ≤ x ∧ x < 18446744073709551616
  room : st.length ≤ 64 + 64 * D.length
  plain : ∀ b, b ∈ st → plain b = true
  bits : ∀ j (h : j < st.length), (if j < 64 then obj.toNat.testBit j else dbit D (j - 64)) = isObj (st[st.length - 1 - j]'(by omega))
theorem RepD.of {lev obj : Int} {st : List Br} (h : Rep lev obj st) : RepD lev obj [] st :=
  ⟨h.len, h.low, h.high, (fun x hx => by cases hx), by have := h.few; simp; omega, h.plain, fun j hj => by rw [if_pos (by have := h.few; omega)]; exact h.bits j hj⟩
theorem RepD.pop {lev obj : Int} {D : List Int} {b : Br} {st : List Br} (h : RepD lev obj D (b :: st)) : RepD (lev - 1) obj D st := by
  refine ⟨?_, h.low, h.high, h.words, ?_, fun x hx => h.plain x (List.mem_cons_of_mem _ hx), fun j hj => ?_⟩
  · have := h.len
    rw [List.length_cons] at this
    omega
  · have := h.room
    rw [List.length_cons] at this
    omega
  · have hb := h.bits j (by rw [List.length_cons]; omega)
    rw [hb]
    congr 1
    have e : (b :: st).length - 1 - j = (st.length - 1 - j) + 1 := by rw [List.length_cons]; omega
    simp only [e, List.getElem_cons_succ]
theorem RepD.push {lev obj obj' : Int} {D D' : List Int} {b : Br} {st : List Br} (h : RepD lev obj D st) (hb : Err.plain b = true) (h0 : 0 ≤ obj') (h1 : obj' < 18446744073709551616) (hw : ∀ x, x ∈ D' → 0 ≤ x ∧ x < 18446744073709551616) (hr : st.length + 1 ≤ 64 + 64 * D'.length)
    (ht : (if st.length < 64 then obj'.toNat.testBit st.length else dbit D' (st.length - 64)) = isObj b) (hs : ∀ j, j < st.length → (if j < 64 then obj'.toNat.testBit j else dbit D' (j - 64)) = (if j < 64 then obj.toNat.testBit j else dbit D (j - 64))) : RepD (lev + 1) obj' D' (b :: st) := by
  refine ⟨by have := h.len; rw [List.length_cons]; omega, h0, h1, hw, by rw [List.length_cons]; omega, fun x hx => ?_, fun j hj => ?_⟩
  · rcases List.mem_cons.1 hx with rfl | hx
    · exact hb
    · exact h.plain x hx
  · rw [List.length_cons] at hj
    by_cases hj2 : j = st.length
    · subst hj2
      rw [ht]
      congr 1
      have e : (b :: st).length - 1 - st.length = 0 := by rw [List.length_cons]; omega
      simp only [e, List.getElem_cons_zero]
    · rw [hs j (by omega), h.bits j (by omega)]
      congr 1
      have e : (b :: st).length - 1 - j = (st.length - 1 - j) + 1 := by rw [List.length_cons]; omega
      simp only [e, List.getElem_cons_succ]
/-- A bit put into a word. -/
theorem or_bit (o k : Nat) (ho : o < 18446744073709551616) (hk : k < 64) : ∃ n : Nat, Go.bits BinOp.or IntKind.u64 (o : Int) (IntKind.u64.wrap (2 ^ k)) = (n : Int) ∧ n < 18446744073709551616 ∧ n.testBit k = true ∧ ∀ j, j ≠ k → n.testBit j = o.testBit j := by
  have h2 : 2 ^ k < 2 ^ 64 := Nat.pow_lt_pow_right (by decide) hk
  refine ⟨o ||| 2 ^ k, ?_, Nat.or_lt_two_pow (n := 64) ho h2, ?_, fun j hj => ?_⟩
  · rw [wrap_pow _ hk, ← Swar.bits_or _ _ ho (by omega)]
  · rw [Nat.testBit_or, Nat.testBit_two_pow]; simp
  · rw [Nat.testBit_or, Nat.testBit_two_pow]
    have : ¬ (k = j) := fun h => hj h.symm
    simp [this]
theorem not_bit (o k : Nat) (ho : o < 18446744073709551616) (hk : k < 64) : ∃ n : Nat, Go.bits BinOp.andNot IntKind.u64 (o : Int) (IntKind.u64.wrap (2 ^ k)) = (n : Int) ∧ n < 18446744073709551616 ∧ n.testBit k = false ∧ ∀ j, j < 64 → j ≠ k → n.testBit j = o.testBit j := by
  have h2 : 2 ^ k < 2 ^ 64 := Nat.pow_lt_pow_right (by decide) hk
  have ht : ∀ j, (18446744073709551615 - 2 ^ k).testBit j = (decide (j < 64) && !(2 ^ k).testBit j) := fun j => by
    rw [← Nat.testBit_two_pow_sub_succ h2]
    congr 1
    omega
  refine ⟨o &&& (18446744073709551615 - 2 ^ k), ?_, Nat.lt_of_le_of_lt Nat.and_le_left ho, ?_, fun j h64 hj => ?_⟩
  · rw [wrap_pow _ hk, ← Swar.bits_andNot _ _ ho (by omega)]
  · rw [Nat.testBit_and, ht, Nat.testBit_two_pow]; simp
  · rw [Nat.testBit_and, ht, Nat.testBit_two_pow]
    have : ¬ (k = j) := fun h => hj h.symm
    simp [this, h64]
theorem RepD.pushObj {lev obj : Int} {D : List Int} {st : List Br} (h : RepD lev obj D st) (hf : lev < 64) : RepD (lev + 1) (Go.bits BinOp.or IntKind.u64 obj (IntKind.u64.wrap (2 ^ lev.toNat))) D (.obj :: st) := by
  have hl := h.len
  have e : lev.toNat = st.length := by omega
  obtain ⟨o, rfl⟩ := Int.eq_ofNat_of_zero_le h.low
  have hh := h.high
  obtain ⟨n, h1, h2, h3, h4⟩ := or_bit o st.length (by omega) (by omega)
  rw [e, h1]
  refine h.push rfl (by omega) (by omega) h.words (by have := h.room; omega) ?_ (fun j hj => ?_)
  · rw [if_pos (by omega), Int.toNat_natCast, h3]; rfl
  · by_cases h5 : j < 64
    · rw [if_pos h5, if_pos h5, Int.toNat_natCast, Int.toNat_natCast, h4 j (by omega)]
    · rw [if_neg h5, if_neg h5]
theorem RepD.pushArr {lev obj : Int} {D : List Int} {st : List Br} (h : RepD lev obj D st) (hf : lev < 64) : RepD (lev + 1) (Go.bits BinOp.andNot IntKind.u64 obj (IntKind.u64.wrap (2 ^ lev.toNat))) D (.arr :: st) := by
  have hl := h.len
  have e : lev.toNat = st.length := by omega
  obtain ⟨o, rfl⟩ := Int.eq_ofNat_of_zero_le h.low
  have hh := h.high
  obtain ⟨n, h1, h2, h3, h4⟩ := not_bit o st.length (by omega) (by omega)
  rw [e, h1]
  refine h.push rfl (by omega) (by omega) h.words (by have := h.room; omega) ?_ (fun j hj => ?_)
  · rw [if_pos (by omega), Int.toNat_natCast, h3]; rfl
  · by_cases h5 : j < 64
    · rw [if_pos h5, if_pos h5, Int.toNat_natCast, Int.toNat_natCast, h4 j h5 (by omega)]
    · rw [if_neg h5, if_neg h5]
/-- What pushDeeper has put. -/
structure Deeper (D D' : List Int) (j : Nat) (b : Bool) : Prop where
  words : (∀ x, x ∈ D → 0 ≤ x ∧ x < 18446744073709551616) → ∀ x, x ∈ D' → 0 ≤ x ∧ x < 18446744073709551616
  room : j < 64 * D'.length
  more : D.length ≤ D'.length
  at_ : dbit D' j = b
  else_ : ∀ i, i ≠ j → i < 64 * D.length → dbit D' i = dbit D i
theorem RepD.deeper {lev obj : Int} {D D' : List Int} {b : Br} {st : List Br} (h : RepD lev obj D st) (hf : 64 ≤ lev) (hb : Err.plain b = true) (hd : Deeper D D' (lev.toNat - 64) (isObj b)) : RepD (lev + 1) obj D' (b :: st) := by
  have hl := h.len
  have e : lev.toNat = st.length := by omega
  have hr := h.room
  refine h.push hb h.low h.high (hd.words h.words) ?_ ?_ (fun j hj => ?_)
  · have := hd.room; omega
  · rw [if_neg (by omega), ← e]; exact hd.at_
  · by_cases h5 : j < 64
    · rw [if_pos h5, if_pos h5]
    · rw [if_neg h5, if_neg h5]
      exact hd.else_ (j - 64) (by omega) (by omega)
theorem rd_in {D : List Int} {i : Nat} (h : i < D.length) : rd D (i : Int) = D.getD i 0 := by
  obtain ⟨hh, e⟩ := rd_get D (i : Int) (by omega) (by omega)
  rw [e, List.getD_eq_getElem?_getD, List.getElem?_eq_getElem h]
  rfl
theorem inObj {lev obj : Int} {D : List Int} {b : Br} {r : List Br} (h : RepD lev obj D (b :: r)) (hx : lev ≤ 20000) : gojson_inObject.f obj D (lev - 1) = some (isObj b) := by
  have hl := h.len
  rw [List.length_cons] at hl
  have hb := h.bits r.length (by rw [List.length_cons]; omega)
  have e2 : (b :: r).length - 1 - r.length = 0 := by rw [List.length_cons]; omega
  simp only [e2, List.getElem_cons_zero] at hb
  have hroom := h.room
  rw [List.length_cons] at hroom
  obtain ⟨o, rfl⟩ := Int.eq_ofNat_of_zero_le h.low
  have hh := h.high
  have key : ∀ (n k : Nat), n < 18446744073709551616 → k < 64 → (Go.bits .and .u64 (n : Int) (shl .u64 1 (k : Int)) != 0) = n.testBit k := fun n k hn hk => by
    have h2 : 2 ^ k < 2 ^ 64 := Nat.pow_lt_pow_right (by decide) hk
    have es : shl .u64 1 (k : Int) = ((2 ^ k : Nat) : Int) := by
      rw [← wrap_pow k hk]
      have hm : ((k : Int)).toNat = k := Int.toNat_natCast k
      first
        | rfl
        | (have h64 : IntKind.u64.bits = 64 := rfl
           unfold shl; simp [hm]; congr 2; omega)
    rw [es, bits_and_u64n n _ (by omega) (by omega), and_pow]
    cases hc : n.testBit k with
    | false => rw [if_neg (by decide)]; rfl
    | true =>
      have : 0 < 2 ^ k := Nat.two_pow_pos _
      rw [if_pos rfl]
      exact bne_iff_ne.mpr (by omega)
  unfold gojson_inObject.f
  by_cases h64 : lev - 1 < 64
  · have ew : IntKind.u64.wrap (lev - 1) = ((r.length : Nat) : Int) := by rw [IntKind.wrap_u64]; omega
    rw [if_pos h64, ew, if_pos (by omega), key o r.length (by omega) (by omega)]
    rw [if_pos (by omega), Int.toNat_natCast] at hb
    rw [hb]
  · have e1 : wrap64 (lev - 1 - 64) = ((r.length - 64 : Nat) : Int) := by unfold wrap64; omega
    rw [if_neg h64, e1]
    have e3 : wrap64 (Int.tdiv ((r.length - 64 : Nat) : Int) 64) = (((r.length - 64) / 64 : Nat) : Int) := by
      rw [Int.tdiv_eq_ediv_of_nonneg (by omega)]; unfold wrap64; omega
    have e4 : IntKind.u64.wrap (Int.tmod ((r.length - 64 : Nat) : Int) 64) = (((r.length - 64) % 64 : Nat) : Int) := by
      rw [Int.tmod_eq_emod_of_nonneg (by omega), IntKind.wrap_u64]; omega
    rw [e3, e4]
    have hin : (r.length - 64) / 64 < D.length := by omega
    rw [if_pos (by omega), if_pos (by omega), if_pos (by omega), rd_in hin]
    rw [if_neg (by omega)] at hb
    have hm : D.getD ((r.length - 64) / 64) 0 ∈ D := by
      rw [List.getD_eq_getElem?_getD, List.getElem?_eq_getElem hin]
      exact List.getElem_mem _
    have hwd := h.words _ hm
    unfold dbit at hb
    obtain ⟨m, hm2⟩ := Int.eq_ofNat_of_zero_le hwd.1
    rw [hm2] at hb hwd ⊢
    rw [Int.toNat_natCast] at hb
    rw [key m _ (by omega) (by omega), hb]
theorem dbit_app {D : List Int} (k i : Nat) (hi : i < 64 * D.length) : dbit (D ++ List.replicate k 0) i = dbit D i := by
  unfold dbit
  have h : i / 64 < D.length := by omega
  rw [List.getD_eq_getElem?_getD, List.getD_eq_getElem?_getD, List.getElem?_append_left h]
theorem dbit_set {D : List Int} {a : Nat} {x : Int} (ha : a < D.length) (i : Nat) : dbit (D.set a x) i = if i / 64 = a then x.toNat.testBit (i % 64) else dbit D i := by
  unfold dbit
  rw [List.getD_eq_getElem?_getD, List.getD_eq_getElem?_getD, List.getElem?_set]
  by_cases h : i / 64 = a
  · rw [if_pos h, if_pos h.symm, if_pos ha]; rfl
  · rw [if_neg h, if_neg (fun e => h e.symm)]
theorem deeper_put {D : List Int} {k j : Nat} {b : Bool} {x : Int} (hj : j / 64 < (D ++ List.replicate k 0).length) (hx0 : 0 ≤ x) (hx1 : x < 18446744073709551616) (hb : x.toNat.testBit (j % 64) = b)
    (hs : ∀ i, i < 64 → i ≠ j % 64 → x.toNat.testBit i = ((D ++ List.replicate k 0).getD (j / 64) 0).toNat.testBit i) : Deeper D ((D ++ List.replicate k 0).set (j / 64) x) j b := by
  refine ⟨fun hw y hy => ?_, ?_, ?_, ?_, fun i hi hD => ?_⟩
  · rcases List.mem_or_eq_of_mem_set hy with hy | rfl
    · rcases List.mem_append.1 hy with hy | hy
      · exact hw y hy
      · rw [List.mem_replicate] at hy
        omega
    · exact ⟨hx0, hx1⟩
  · rw [List.length_set]; omega
  · rw [List.length_set, List.length_append]; omega
  · rw [dbit_set hj, if_pos rfl, hb]
  · rw [dbit_set hj]
    by_cases h : i / 64 = j / 64
    · rw [if_pos h, hs (i % 64) (by omega) (by omega), ← h]
      have := dbit_app (D := D) k i hD
      unfold dbit at this ⊢
      exact this
    · rw [if_neg h]
      exact dbit_app k i hD
set_option maxRecDepth 100000 in
set_option maxHeartbeats 4000000 in
theorem pushDeeper (w0 w : World) (v : Value) (D : List Int) (lev : Int) (b : Bool) (hR : Row w0 w v D) (hB : Below w0.heap.size w0 w) (hw : ∀ x, x ∈ D → 0 ≤ x ∧ x < 18446744073709551616) (hD : D.length ≤ 1000) (h0 : 64 ≤ lev) (h1 : lev ≤ 20000) :
    Calls Tryd.prog 124 #[v, .int .i64 lev, .bool b] w fun e w' => ∃ v' D', e = .returned v' ∧ Row w0 w' v' D' ∧ Below w0.heap.size w0 w' ∧ D'.length ≤ 1000 ∧ Deeper D D' (lev.toNat - 64) b := by
  obtain ⟨a, ha⟩ : ∃ a : Nat, a = (lev.toNat - 64) / 64 := ⟨_, rfl⟩
  obtain ⟨k, hk⟩ : ∃ k : Nat, k = (lev.toNat - 64) % 64 := ⟨_, rfl⟩
  have hkl : k < 64 := by omega
  have hdiv : Int.tdiv (lev - 64) 64 = (a : Int) := by rw [Int.tdiv_eq_ediv_of_nonneg (by omega)]; omega
  have hdiv2 : (lev - 64) / 64 = (a : Int) := by omega
  have hmod : Int.tmod (lev - 64) 64 = (k : Int) := by rw [Int.tmod_eq_emod_of_nonneg (by omega)]; omega
  have hmod2 : (lev - 64) % 64 = (k : Int) := by omega
  have hal : a ≤ 400 := by omega
  have HA := Aside0.mk ha
  have HK := Aside0.mk hk
  have HR := Aside0.mk hR
  have HB := Aside0.mk hB
  have HW := Aside0.mk hw
  clear ha hk hR hB hw
  go_enter Tryd.func124, Tryd.ntmps124
  go_wp2_with fail
  go_loopg [0] (D.length + a + 2) (fun kq v0 w' => ∃ (m : Nat), Aside0 (Row w0 w' v0 (D ++ List.replicate m 0) ∧ Below w0.heap.size w0 w' ∧ D.length ≤ 1000 ∧ (m = 0 ∨ D.length + m ≤ a + 1) ∧ a + 2 ≤ D.length + m + kq))
  case atStart => exact ⟨0, by rw [List.replicate_zero, List.append_nil]; exact HR.out, HB.out, hD, .inl rfl, by omega⟩
  case round =>
    obtain ⟨m, HI⟩ := hrel
    obtain ⟨hr, hb, hd, hm, hkq⟩ := HI.out
    obtain ⟨A, c, rfl, hc, hcap⟩ := hr.reads
    have hlen : (D ++ List.replicate m 0).length = D.length + m := by rw [List.length_append, List.length_replicate]
    rw [hlen]
    by_cases hlt : D.length + m ≤ a
    · obtain _ | g0 := gk
      · exfalso; omega
      have HLEN := Aside0.mk hlen
      have hr3 : wr.ownsRow w0.heap.size 35 1 (.slice A (D.length + m) c) (D.length + m) (nums .u64 (D ++ List.replicate m 0)) := by
        have h := hr
        unfold Row at h
        rw [hlen] at h
        exact h
      have HRR := Aside0.mk hr3
      have HBB := Aside0.mk hb
      rw [hlen] at hcap
      clear hlen hr hr3 hb hc HI
      go_wp2_with (first | ((with_reducible refine gate_builtin (b := .append) (xs := #[.tmp 20, .tmp 21]) rfl ?_); at_builtin; refine print_append_num (w0 := w0) w0.heap.size rfl (.tmp 20) (.tmp 21) 132 35 .u64 8 rfl Tryd.underlying132 (by kernel_rfl) (by omega) _ (D ++ List.replicate m 0) 0 rfl rfl ?aO ?aB ?aS ?aL ?_; (case aO => rw [HLEN.out]; exact HRR.out); (case aB => exact HBB.out); (case aS => exact HBB.out.size); (case aL => rw [HLEN.out]; omega); intro v1 w1 ho hb2 hg hat; have HO := Aside0.mk ho; have HB2 := Aside0.mk hb2; clear ho hb2 hg hat))
      go_roundg g0
      case measure => omega
      case rel =>
        refine ⟨m + 1, ?_, HB2.out, hd, by omega, by omega⟩
        have e : D ++ List.replicate (m + 1) 0 = D ++ List.replicate m 0 ++ [0] := by rw [List.append_assoc, List.replicate_succ']
        rw [e]
        exact HO.out
    · have hin : a < (D ++ List.replicate m 0).length := by omega
      have hr2 : Row w0 wr (.slice A (D ++ List.replicate m 0).length c) (D ++ List.replicate m 0) := hr
      obtain ⟨g, cap, he, hgb, hgl⟩ := World.ownsRow.form hr2 (by omega)
      cases he
      obtain ⟨hcell, hfroz⟩ := own_at hr2 (a : Int) (by omega) (by omega)
      have hst := own_store hr2 (a : Int)
      obtain ⟨o, ho⟩ : ∃ o : Nat, rd (D ++ List.replicate m 0) (a : Int) = (o : Int) ∧ o < 18446744073709551616 ∧ (D ++ List.replicate m 0).getD a 0 = (o : Int) := by
        have hmem : rd (D ++ List.replicate m 0) (a : Int) ∈ D ++ List.replicate m 0 := by
          rw [rd_in hin, List.getD_eq_getElem?_getD, List.getElem?_eq_getElem hin]
          exact List.getElem_mem _
        have hx : 0 ≤ rd (D ++ List.replicate m 0) (a : Int) ∧ rd (D ++ List.replicate m 0) (a : Int) < 18446744073709551616 := by
          rcases List.mem_append.1 hmem with h | h
          · exact HW.out _ h
          · rw [List.mem_replicate] at h
            omega
        exact ⟨_, (Int.toNat_of_nonneg hx.1).symm, by omega, by rw [← rd_in hin]; exact (Int.toNat_of_nonneg hx.1).symm⟩
      obtain ⟨ho1, ho2, ho3⟩ := ho
      rw [ho1] at hcell
      rw [Int.toNat_natCast] at hcell hfroz
      have HS := Aside0.mk hst
      have HB2 := Aside0.mk hb
      have HGB := Aside0.mk hgb
      have HO3 := Aside0.mk ho3
      have HIN := Aside0.mk hin
      have HLEN := Aside0.mk hlen
      rw [hlen] at hcap
      clear hst hb hr hr2 hc HI ho3 hin ho1 hgb hlen
      cases b with
      | true =>
        obtain ⟨n, h1, h2, h3, h4⟩ := or_bit o k ho2 hkl
        have HX := Aside0.mk (And.intro h1 (And.intro h2 (And.intro h3 h4)))
        clear h1 h2 h3 h4
        go_wp2_with fail
        go_ret
        obtain ⟨h1, h2, h3, h4⟩ := HX.out
        rw [h1]
        have hs := HS.out (n : Int)
        have hj : (lev.toNat - 64) / 64 = a := HA.out.symm
        have hk : (lev.toNat - 64) % 64 = k := HK.out.symm
        refine ⟨_, (D ++ List.replicate m 0).set a (n : Int), rfl, ?_, ?_, by rw [List.length_set, HLEN.out]; omega, ?_⟩
        · have h5 := hs.1
          rw [Int.toNat_natCast] at h5
          unfold Row
          rw [List.length_set, HLEN.out]
          rw [HLEN.out] at h5
          exact h5
        · exact HB2.out.setCell HGB.out _
        · have h6 := HIN.out
          rw [← hj] at h6 ⊢
          refine deeper_put h6 (by omega) (by omega) (by rw [hk, Int.toNat_natCast]; exact h3) (fun i hi hne => ?_)
          rw [hj, HO3.out, Int.toNat_natCast, Int.toNat_natCast]
          exact h4 i (by omega)
      | false =>
        obtain ⟨n, h1, h2, h3, h4⟩ := not_bit o k ho2 hkl
        have HX := Aside0.mk (And.intro h1 (And.intro h2 (And.intro h3 h4)))
        clear h1 h2 h3 h4
        go_wp2_with fail
        go_ret
        obtain ⟨h1, h2, h3, h4⟩ := HX.out
        rw [h1]
        have hs := HS.out (n : Int)
        have hj : (lev.toNat - 64) / 64 = a := HA.out.symm
        have hk : (lev.toNat - 64) % 64 = k := HK.out.symm
        refine ⟨_, (D ++ List.replicate m 0).set a (n : Int), rfl, ?_, ?_, by rw [List.length_set, HLEN.out]; omega, ?_⟩
        · have h5 := hs.1
          rw [Int.toNat_natCast] at h5
          unfold Row
          rw [List.length_set, HLEN.out]
          rw [HLEN.out] at h5
          exact h5
        · exact HB2.out.setCell HGB.out _
        · have h6 := HIN.out
          rw [← hj] at h6 ⊢
          refine deeper_put h6 (by omega) (by omega) (by rw [hk, Int.toNat_natCast]; exact h3) (fun i hi hne => ?_)
          rw [hj, HO3.out, Int.toNat_natCast, Int.toNat_natCast]
          exact h4 i hi (by omega)
end Go.Proofs.YtfkagnpdapkaaaaDoor.Err
