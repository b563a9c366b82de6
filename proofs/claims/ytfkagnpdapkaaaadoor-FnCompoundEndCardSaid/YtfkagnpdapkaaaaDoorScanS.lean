/- scanString: a text found byte by byte and by words, what it answers of it. -/
import Derived.Test.YtfkagnpdapkaaaaDoorScC
import Derived.Laws.Cover4
namespace Go.Proofs.YtfkagnpdapkaaaaDoor.Err
open Go.RowKit Go.Proofs.YtfkagnpdapkaaaaDoorW.PrintWords Go.Proofs.YtfkagnpdapkaaaaDoorW.PrintLast Go.Proofs.YtfkagnpdapkaaaaDoorW.PrintMore
open Go.Proofs.YtfkagnpdapkaaaaDoor.Tab Go.Proofs.YtfkagnpdapkaaaaDoor.QF
set_option linter.unusedVariables false
/-- What scanString answers: the bytes, the place behind, where the first escape is, whether there are bytes of 128 and more; or an error. -/
def ScanAns (q : ByteArray → ByteArray) (ad : Addr) (c : Nat) (L : List Int) (cur : Int) (w : World) (e : Ending) (w' : World) : Prop :=
  Below w.heap.size w w' ∧ ((∃ d fe hi, Ends q L .text (cur + 1) d ∧ cur + 1 < d ∧ d < L.length ∧ FirstEsc L (cur + 1) (d - 1) fe ∧ (hi = true ↔ ∃ k, cur + 1 ≤ k ∧ k < d - 1 ∧ 128 ≤ rd L k) ∧
      e = .returned (.tuple #[.slice (some (ad.add (cur + 1).toNat)) ((d - 1).toNat - (cur + 1).toNat) (c - (cur + 1).toNat), .int .i64 d, .agg #[.int .i64 fe, .bool hi], .nilIface])) ∨
    ∃ s v, Bad q L .text (cur + 1) s ∧ (∃ s', EV w' v s') ∧ e = .returned (.tuple #[.slice none 0 0, .int .i64 0, .agg #[.int .i64 0, .bool false], v]))
/-- What holds at the head of a round. -/
structure SR (q : ByteArray → ByteArray) (L : List Int) (cur x fe h : Int) : Prop where
  le : cur + 1 ≤ x
  lt : x < L.length
  same : Same q L .text (cur + 1) .text x
  esc : FirstEsc L (cur + 1) x fe
  hi : Hi h (∃ k, cur + 1 ≤ k ∧ k < x ∧ 128 ≤ rd L k)
theorem SR.plain {q : ByteArray → ByteArray} {L : List Int} {cur x x' fe h h' : Int} (hT : Txt L) (hc : 0 ≤ cur) (h0 : SR q L cur x fe h) (hle : x ≤ x') (hlt : x' < L.length) (hp : ∀ k, x ≤ k → k < x' → Plain (rd L k)) (hh : Hi h' ((∃ k, cur + 1 ≤ k ∧ k < x ∧ 128 ≤ rd L k) ∨ ∃ k, x ≤ k ∧ k < x' ∧ 128 ≤ rd L k)) : SR q L cur x' fe h' :=
  ⟨by have := h0.le; omega, hlt, h0.same.trans (fun st => plain_out hT hlt (by have := h0.le; omega) hle hp st), h0.esc.more hle (fun k h1 h2 => (hp k h1 h2).2.2), hh.iff ⟨fun h => by
    rcases h with ⟨k, h1, h2, h3⟩ | ⟨k, h1, h2, h3⟩
    · exact ⟨k, h1, by omega, h3⟩
    · exact ⟨k, by have := h0.le; omega, h2, h3⟩, fun ⟨k, h1, h2, h3⟩ => if hk : k < x then .inl ⟨k, h1, hk, h3⟩ else .inr ⟨k, by omega, h2, h3⟩⟩⟩
theorem SR.jump {q : ByteArray → ByteArray} {L : List Int} {cur y x' fe fe' h : Int} (h0 : SR q L cur y fe h) (hle : y ≤ x') (hlt : x' < L.length) (hs : Same q L .text (cur + 1) .text x') (hf : FirstEsc L (cur + 1) x' fe') (hlow : ∀ k, y ≤ k → k < x' → rd L k < 128) : SR q L cur x' fe' h :=
  ⟨by have := h0.le; omega, hlt, hs, hf, h0.hi.iff ⟨fun ⟨k, h1, h2, h3⟩ => ⟨k, h1, by omega, h3⟩, fun ⟨k, h1, h2, h3⟩ => if hk : k < y then ⟨k, h1, hk, h3⟩ else by have := hlow k (by omega) h2; omega⟩⟩
theorem scan_bad {q : ByteArray → ByteArray} {ad : Addr} {c : Nat} {L : List Int} {cur : Int} {s s' : SE} {g m : Nat} {w w2 : World} (hbad : Bad q L .text (cur + 1) s) (hp : PT w2 g s') (hg : ((w.alloc (.cells #[.int .i64 0, .bool false] 104)).drewN m).heap.size ≤ g)
    (hb : Below ((w.alloc (.cells #[.int .i64 0, .bool false] 104)).drewN m).heap.size ((w.alloc (.cells #[.int .i64 0, .bool false] 104)).drewN m) w2) :
    ScanAns q ad c L cur w (.returned (.tuple #[.slice none 0 0, .int .i64 0, .agg #[.int .i64 0, .bool false], .iface 86 (.pointer (some ⟨g, 0, none⟩))])) ((w2.setCell ⟨w.heap.size, 0, none⟩ (.int .i64 0)).setCell ⟨w.heap.size, 1, none⟩ (.bool false)) := by
  have h1 : Below w.heap.size w w2 := below_step (pw_below_drewN (below_alloc (Below.refl _ _) _) _) hb
  have hs : ((w.alloc (.cells #[.int .i64 0, .bool false] 104)).drewN m).heap.size = w.heap.size + 1 := by
    rw [show ∀ (W : World) n, (W.drewN n).heap = W.heap from fun W n => rfl]
    exact Array.size_push ..
  refine ⟨(h1.setCell (Nat.le_refl _) _).setCell (Nat.le_refl _) _, .inr ⟨s, _, hbad, ⟨s', g, rfl, ?_⟩, rfl⟩⟩
  unfold PT at hp ⊢
  rw [Below.heap_setCell _ _ _ _ (by show g ≠ w.heap.size; omega), Below.heap_setCell _ _ _ _ (by show g ≠ w.heap.size; omega)]
  exact hp
theorem bcell {W w1 : World} (hb : Below W.heap.size W w1) : (∀ b o, b < W.heap.size → w1.cell? ⟨b, o, none⟩ = W.cell? ⟨b, o, none⟩) ∧ (∀ b o, b < W.heap.size → w1.frozen? ⟨b, o, none⟩ = W.frozen? ⟨b, o, none⟩) :=
  ⟨fun b o h => hb.cell (p := ⟨b, o, none⟩) h, fun b o h => hb.frozen (p := ⟨b, o, none⟩) h⟩
theorem part_mask (j : Int) (h0 : 0 ≤ j) (h8 : j < 8) : ∃ p : Int, p = ((256 ^ j.toNat - 1 : Nat) : Int) ∧ 0 ≤ p ∧ p < 72057594037927936 ∧ ∀ W, Sem.run Tryd.prog (Op.shift BinOp.shl IntKind.u64 1 IntKind.u64 (bits BinOp.and IntKind.u64 (j * 8) 63)) W = .ok (.int .u64 (p + 1)) W := by
  have h : j = 0 ∨ j = 1 ∨ j = 2 ∨ j = 3 ∨ j = 4 ∨ j = 5 ∨ j = 6 ∨ j = 7 := by omega
  rcases h with rfl | rfl | rfl | rfl | rfl | rfl | rfl | rfl
  all_goals exact ⟨_, rfl, by decide, by decide, fun W => rfl⟩
set_option maxRecDepth 100000 in
set_option maxHeartbeats 8000000 in
theorem scanString (q : ByteArray → ByteArray) (v0 : Value) (ad : Addr) (c : Nat) (L : List Int) (cur : Int) (w : World) (hG : G q w) (hB : Buf w ad c L) (h0 : 0 ≤ cur) (h1 : cur < L.length) (h34 : rd L cur = 34) :
    Calls Tryd.prog 89 #[v0, .slice (some ad) L.length c, .int .i64 cur] w (ScanAns q ad c L cur w) := by
  have HT := Aside0.mk hB.txt
  have hsm := hB.small
  have hcap := hB.cap
  have HB := Aside0.mk hB
  have HG := Aside0.mk hG
  have HGL := Aside0.mk hG.tab
  have hin := HT.out.inside (x := cur) h0 h1 (by omega)
  have hx : ∀ O : Obj, (w.alloc O).cell? (ad.add cur.toNat) = some (.int .u8 34) := fun O => by
    have := (HB.out.below (below_alloc (Below.refl _ _) O)).at_ cur h0 h1
    rw [h34] at this
    exact this
  have HBW : ∀ O : Obj, Aside0 (Below w.heap.size w (w.alloc O)) := fun O => ⟨below_alloc (Below.refl _ _) O⟩
  clear hB hG h34
  go_enter Tryd.func89, Tryd.ntmps89
  go_wp2
  refine wp_loop_once ?_
  go_wp2
  go_loopg [2, 13, 14] (L.length) (fun kq v2 v13 v14 w' => ∃ (x fe h : Int), v2 = .int .i64 x ∧ v13 = .int .i64 fe ∧ v14 = .int .u64 h ∧ Aside0 (SR q L cur x fe h ∧ (L.length : Int) ≤ x + kq) ∧ Drawn0 (w.alloc (.cells #[.int .i64 0, .bool false] 104)) w')
  case atStart => exact ⟨cur + 1, -1, 0, rfl, rfl, rfl, ⟨⟨by omega, by omega, Same.refl, FirstEsc.start _ _, Hi.zero.iff ⟨False.elim, fun ⟨k, h1, h2, h3⟩ => by omega⟩⟩, by omega⟩, by repeat (first | exact Drawn0.refl _ | apply Drawn0.step)⟩
  case round =>
    obtain ⟨x, fe, h, rfl, rfl, rfl, HA, ⟨m, rfl⟩⟩ := hrel
    have hx0 := HA.out.1.le
    have hx1 := HA.out.1.lt
    have hk := HA.out.2
    obtain _ | g0 := gk
    · exfalso; omega
    go_upto_block 5 with (fail)
    go_cut [2, 14, 16, 17, 18] from 83 to 116 (fun v2 v14 v16 v17 v18 wx => ∃ (y h' : Int), v2 = .int .i64 y ∧ v14 = .int .u64 h' ∧ Aside0 (SR q L cur y fe h' ∧ x ≤ y) ∧ Drawn0 (w.alloc (.cells #[.int .i64 0, .bool false] 104)) wx)
    case first =>
      as_aux_lemma =>
        have HA0 := HA
        clear HA hk
        go_wp2_with fail
        go_loopg [2, 14] (L.length) (fun kq v2 v14 w' => ∃ (y h' : Int), v2 = .int .i64 y ∧ v14 = .int .u64 h' ∧ Aside0 (SR q L cur y fe h' ∧ x ≤ y ∧ (L.length : Int) ≤ y + kq) ∧ Drawn0 (w.alloc (.cells #[.int .i64 0, .bool false] 104)) w')
        case atStart => exact ⟨x, h, rfl, rfl, ⟨HA0.out.1, Int.le_refl _, by omega⟩, by repeat (first | exact Drawn0.refl _ | apply Drawn0.step)⟩
        case round =>
          obtain ⟨y, h', rfl, rfl, HI, ⟨m2, rfl⟩⟩ := hrel
          have hy0 := HI.out.1.le
          have hy1 := HI.out.1.lt
          have hxy := HI.out.2.1
          have hk2 := HI.out.2.2
          have HSR := Aside0.mk HI.out.1
          clear HI
          by_cases c8 : y + 8 ≤ L.length
          · obtain ⟨W, S, hW, hS, hor⟩ := word_at HT.out y (by omega) c8
            have HW := Aside0.mk hW
            have HS := Aside0.mk hS
            clear hW hS
            rcases hor with ⟨rfl, hpl⟩ | ⟨hS0, j, hj0, hj8, htz, hpl, hsp⟩
            · have h9 : y + 8 < L.length := by
                by_cases h9 : y + 8 < L.length
                · exact h9
                · exfalso
                  have := (hpl (L.length - 1) (by omega) (by omega)).1
                  rw [HT.out.last] at this
                  omega
              have HPL := Aside0.mk hpl
              clear hpl
              obtain _ | g1 := gk
              · exfalso; omega
              go_wp2_with fail
              with_reducible refine (gojson_load64.calls (some ad) c L y W _ (HB.out.below ?b).C HB.out.cap HW.out).mono ?_
              case b => exact (by repeat (first | exact (HBW _).out | apply pw_below_drewN))
              rintro e w2 ⟨rfl, ⟨m3, rfl⟩⟩
              go_wp2_with fail
              with_reducible refine (gojson_keyEndBytes.calls W 0 _ HS.out).mono ?_
              rintro e w2 ⟨rfl, ⟨m4, rfl⟩⟩
              go_wp2_with fail
              go_roundg g1
              case measure => omega
              case rel => exact ⟨y + 8, _, rfl, rfl, ⟨HSR.out.plain HT.out h0 (by omega) h9 HPL.out (HSR.out.hi.or (Hi.word HT.out (by omega) c8 HW.out)), by omega, by omega⟩, by repeat (first | exact Drawn0.refl _ | apply Drawn0.step)⟩
            · have HPL := Aside0.mk hpl
              have HTZ := Aside0.mk htz
              have HSP := Aside0.mk hsp
              have f0 : (S == 0) = false := beq_eq_false_iff_ne.mpr hS0
              have f00 : (S != 0) = true := bne_iff_ne.mpr hS0
              have hdiv : Int.tdiv (8 * j + 7) 8 = j := by rw [Int.tdiv_eq_ediv_of_nonneg (by omega)]; omega
              have hdiv2 : (8 * j + 7) / 8 = j := by omega
              clear hpl htz hsp hS0
              obtain ⟨p, hp, hp0, hp1, hsh⟩ := part_mask j hj0 hj8
              have HP := Aside0.mk hp
              have HSH := Aside0.mk hsh
              clear hp hsh
              go_wp2_with fail
              with_reducible refine (gojson_load64.calls (some ad) c L y W _ (HB.out.below ?b).C HB.out.cap HW.out).mono ?_
              case b => exact (by repeat (first | exact (HBW _).out | apply pw_below_drewN))
              rintro e w2 ⟨rfl, ⟨m3, rfl⟩⟩
              go_wp2_with fail
              with_reducible refine (gojson_keyEndBytes.calls W S _ HS.out).mono ?_
              rintro e w2 ⟨rfl, ⟨m4, rfl⟩⟩
              go_wp2_with fail
              with_reducible refine (tz64.calls S (8 * j + 7) _ (HGL.out.below ?b) HTZ.out).mono ?_
              case b => exact (by repeat (first | exact (HBW _).out | apply pw_below_drewN))
              rintro e w2 ⟨rfl, ⟨m5, rfl⟩⟩
              go_wp2_with fail
              rw [HSH.out]
              go_wp2_with fail
              go_meet
              case rel =>
                refine ⟨y + j, _, rfl, rfl, ⟨HSR.out.plain HT.out h0 (by omega) (by omega) HPL.out (HSR.out.hi.or ?_), by omega⟩, by repeat (first | exact Drawn0.refl _ | apply Drawn0.step)⟩
                rw [HP.out]
                have h3 := Hi.part HT.out (W := W) j.toNat (by omega) (show 0 ≤ y by omega) c8 HW.out
                rw [Int.toNat_of_nonneg hj0] at h3
                exact h3
          · go_wp2_with fail
            go_meet
            case rel => exact ⟨y, h', rfl, rfl, ⟨HSR.out, hxy⟩, by repeat (first | exact Drawn0.refl _ | apply Drawn0.step)⟩
    case rest =>
      obtain ⟨y, h', rfl, rfl, HC, ⟨m2, rfl⟩⟩ := hcut
      have hy0 := HC.out.1.le
      have hy1 := HC.out.1.lt
      have hxy := HC.out.2
      have HSR := Aside0.mk HC.out.1
      have hby := HT.out.bytes y (by omega) hy1
      clear HC HA
      go_wp2_with fail
      with_reducible refine (char_ (HB.out.below ?b) y (by omega) hy1).mono ?_
      case b => exact (by repeat (first | exact (HBW _).out | apply pw_below_drewN))
      rintro e w1 ⟨rfl, ⟨m3, rfl⟩⟩
      by_cases c1 : rd L y = 92
      · have HBS : Aside0 (Same q L .text (cur + 1) .esc (y + 1)) := ⟨fun st => (HSR.out.same st).trans (txt_bs HT.out (by omega) hy1 c1).1⟩
        have hy2 : y + 1 < L.length := (txt_bs (q := q) (st := []) HT.out (by omega) hy1 c1).2
        have HC1 := Aside0.mk c1
        have hby' := HT.out.bytes (y + 1) (by omega) hy2
        rw [c1]
        clear c1 hby
        go_upto_region 51 with (fail)
        go_upto_if 156 with (fail)
        go_cut [13] from 155 to 159 (fun v13 wx => ∃ fe', v13 = .int .i64 fe' ∧ Aside0 (0 ≤ fe' ∧ FirstEsc L (cur + 1) (y + 1) fe') ∧ Drawn0 (w.alloc (.cells #[.int .i64 0, .bool false] 104)) wx)
        case first =>
          by_cases cf : fe < 0
          · have HE := Aside0.mk (HSR.out.esc.new cf (by omega) (show y < y + 1 by omega) HC1.out)
            go_wp2_with fail
            go_meet
            case rel => exact ⟨y - (cur + 1), rfl, ⟨by omega, HE.out⟩, by repeat (first | exact Drawn0.refl _ | apply Drawn0.step)⟩
          · have HE := Aside0.mk (HSR.out.esc.old (by omega) (show y ≤ y + 1 by omega))
            go_wp2_with fail
            go_meet
            case rel => exact ⟨fe, rfl, ⟨by omega, HE.out⟩, by repeat (first | exact Drawn0.refl _ | apply Drawn0.step)⟩
        case rest =>
          obtain ⟨fe', rfl, HF, ⟨m4, rfl⟩⟩ := hcut
          go_wp2_with fail
          with_reducible refine (char_ (HB.out.below ?b) (y + 1) (by omega) hy2).mono ?_
          case b => exact (by repeat (first | exact (HBW _).out | apply pw_below_drewN))
          rintro e w4 ⟨rfl, ⟨m5, rfl⟩⟩
          by_cases ce : isEsc (rd L (y + 1))
          · as_aux_lemma =>
              have HS2 : Aside0 (Same q L .text (cur + 1) .text (y + 1 + 1)) := ⟨fun st => (HBS.out st).trans (esc_ok HT.out (by omega) hy2 ce).1⟩
              have hy3 := (esc_ok (q := q) (st := []) HT.out (by omega) hy2 ce).2
              have HLOW : Aside0 (∀ k, y ≤ k → k < y + 1 + 1 → rd L k < 128) := ⟨fun k h1 h2 => by
                obtain rfl | rfl : k = y ∨ k = y + 1 := by omega
                · rw [HC1.out]; decide
                · unfold isEsc at ce; omega⟩
              rcases ce with h | h | h | h | h | h | h | h
              all_goals
                rw [h]
                clear h hby'
                go_wp2_with fail
                go_roundg g0
                case measure => omega
                case rel => exact ⟨y + 1 + 1, fe', h', rfl, rfl, rfl, ⟨HSR.out.jump (by omega) hy3 HS2.out (HF.out.2.old HF.out.1 (by omega)) HLOW.out, by omega⟩, by repeat (first | exact Drawn0.refl _ | apply Drawn0.step)⟩
          by_cases cu : rd L (y + 1) = 117
          · as_aux_lemma =>
              have HS2 : Aside0 (Same q L .text (cur + 1) (.dig 0) (y + 1 + 1)) := ⟨fun st => (HBS.out st).trans (esc_u HT.out (by omega) hy2 cu).1⟩
              have hy3 := (esc_u (q := q) (st := []) HT.out (by omega) hy2 cu).2
              have HLOW : Aside0 (∀ k, y ≤ k → k < y + 1 + 1 → rd L k < 128) := ⟨fun k h1 h2 => by
                obtain rfl | rfl : k = y ∨ k = y + 1 := by omega
                · rw [HC1.out]; decide
                · rw [cu]; decide⟩
              rw [cu]
              clear cu ce hby'
              by_cases c6 : y + 1 + 5 ≥ L.length
              · obtain ⟨s0, hs0⟩ := dig_short (q := q) HT.out 4 0 rfl (y + 1 + 1) (by omega) hy3 (by omega)
                have HBAD := Aside0.mk (HS2.out.bad hs0)
                clear hs0
                go_wp2_with fail
                with_reducible refine (errUnexpectedEnd _ _ _ (by decide)).mono ?_
                rintro e w2 ⟨s', g, rfl, hg, hp, hb⟩
                have HP := Aside0.mk hp
                have HBB := Aside0.mk hb
                obtain ⟨hc, hf⟩ := bcell hb
                clear hp hb
                go_wp2_with fail
                exact bodyPost_ret (v := .tuple #[.slice none 0 0, .int .i64 0, .agg #[.int .i64 0, .bool false], .iface 86 (.pointer (some ⟨g, 0, none⟩))]) (by simp [results, Tryd.results89, go_sem, hc]) rfl (scan_bad HBAD.out HP.out hg HBB.out)
              · go_wp2_with fail
                go_loopg [20] 4 (fun kq v20 w' => ∃ (i : Int), v20 = .int .i64 i ∧ Aside0 (1 ≤ i ∧ i + kq = 5 ∧ Same q L .text (cur + 1) (if kq = 0 then .text else .dig (4 - kq)) (y + 1 + i) ∧ y + 1 + i < L.length ∧ ∀ k, y ≤ k → k < y + 1 + i → rd L k < 128) ∧ Drawn0 (w.alloc (.cells #[.int .i64 0, .bool false] 104)) w')
                case atStart => exact ⟨1, rfl, ⟨by omega, by omega, HS2.out, hy3, HLOW.out⟩, by repeat (first | exact Drawn0.refl _ | apply Drawn0.step)⟩
                case round =>
                  obtain ⟨i, rfl, HI, ⟨m6, rfl⟩⟩ := hrel
                  obtain ⟨hi0, hi1, hi2, hi3, hi4⟩ := HI.out
                  have HI2 := Aside0.mk hi2
                  have HI4 := Aside0.mk hi4
                  clear HI hi2 hi4
                  obtain _ | g1 := gk
                  · have e5 : i = 5 := by omega
                    subst e5
                    have HS3 : Aside0 (Same q L .text (cur + 1) .text (y + 1 + 5)) := ⟨HI2.out⟩
                    clear HI2
                    go_wp2_with fail
                    go_roundg g0
                    case measure => omega
                    case rel => exact ⟨y + 1 + 5, fe', h', rfl, rfl, rfl, ⟨HSR.out.jump (by omega) hi3 HS3.out (HF.out.2.old HF.out.1 (by omega)) HI4.out, by omega⟩, by repeat (first | exact Drawn0.refl _ | apply Drawn0.step)⟩
                  · have hbi := HT.out.bytes (y + 1 + i) (by omega) hi3
                    have hile : i ≤ 4 := by omega
                    have HS3 : Aside0 (Same q L .text (cur + 1) (.dig (4 - (g1 + 1))) (y + 1 + i)) := ⟨by have := HI2.out; rw [if_neg (by omega)] at this; exact this⟩
                    clear HI2
                    go_wp2_with fail
                    with_reducible refine (char_ (HB.out.below ?b) (y + 1 + i) (by omega) hi3).mono ?_
                    case b => exact (by repeat (first | exact (HBW _).out | apply pw_below_drewN))
                    rintro e w4 ⟨rfl, ⟨m7, rfl⟩⟩
                    by_cases ch : isHex (rd L (y + 1 + i))
                    · have HD : Aside0 (Same q L .text (cur + 1) (if 4 - (g1 + 1) + 1 = 4 then .text else .dig (4 - (g1 + 1) + 1)) (y + 1 + i + 1)) := ⟨fun st => (HS3.out st).trans (dig_ok HT.out (by omega) hi3 ch).1⟩
                      have hi5 := (dig_ok (q := q) (st := []) (k := 0) HT.out (by omega) hi3 ch).2
                      have HL2 : Aside0 (∀ k, y ≤ k → k < y + 1 + (i + 1) → rd L k < 128) := ⟨fun k h1 h2 => by
                        by_cases hk : k < y + 1 + i
                        · exact HI4.out k h1 hk
                        · have : k = y + 1 + i := by omega
                          rw [this]
                          unfold isHex isDig at ch; omega⟩
                      rcases ch with ⟨h1, h2⟩ | ⟨h1, h2⟩ | ⟨h1, h2⟩
                      all_goals
                        clear hbi
                        go_wp2_with fail
                        go_roundg g1
                        case measure => omega
                        case rel =>
                          refine ⟨i + 1, rfl, ⟨by omega, by omega, ?_, by omega, HL2.out⟩, by repeat (first | exact Drawn0.refl _ | apply Drawn0.step)⟩
                          have h3 := HD.out
                          rw [show y + 1 + i + 1 = y + 1 + (i + 1) by omega] at h3
                          by_cases hg : g1 = 0
                          · subst hg; exact h3
                          · rw [if_neg (by omega), show 4 - (g1 + 1) + 1 = 4 - g1 by omega] at h3
                            rw [if_neg hg]
                            exact h3
                    · have HBAD := Aside0.mk (HS3.out.bad (fun st => dig_bad (q := q) (st := st) (k := 4 - (g1 + 1)) HT.out (by omega) hi3 ch))
                      have hr : rd L (y + 1 + i) < 48 ∨ (57 < rd L (y + 1 + i) ∧ rd L (y + 1 + i) < 65 ∧ decide (rd L (y + 1 + i) ≤ 57) = false) ∨ (70 < rd L (y + 1 + i) ∧ rd L (y + 1 + i) < 97 ∧ decide (rd L (y + 1 + i) ≤ 57) = false ∧ decide (rd L (y + 1 + i) ≤ 70) = false) ∨ (102 < rd L (y + 1 + i) ∧ decide (rd L (y + 1 + i) ≤ 57) = false ∧ decide (rd L (y + 1 + i) ≤ 70) = false ∧ decide (rd L (y + 1 + i) ≤ 102) = false) := by unfold isHex isDig at ch; simp only [decide_eq_false_iff_not]; omega
                      have hes := encode_size_le (rd L (y + 1 + i))
                      clear ch
                      rcases hr with h1 | ⟨h1, h2, b1⟩ | ⟨h1, h2, b1, b2⟩ | ⟨h1, b1, b2, b3⟩
                      all_goals
                        go_wp2_with fail
                        with_reducible refine (errSyntax _ _ _).mono ?_
                        rintro e w2 ⟨g, rfl, hg, hp, hb⟩
                        have HP := Aside0.mk hp
                        have HBB := Aside0.mk hb
                        obtain ⟨hc, hf⟩ := bcell hb
                        clear hp hb
                        go_wp2_with fail
                        exact bodyPost_ret (v := .tuple #[.slice none 0 0, .int .i64 0, .agg #[.int .i64 0, .bool false], .iface 86 (.pointer (some ⟨g, 0, none⟩))]) (by simp [results, Tryd.results89, go_sem, hc]) rfl (scan_bad HBAD.out HP.out hg HBB.out)
          · as_aux_lemma =>
              have HBAD := Aside0.mk (HBS.out.bad (fun st => esc_bad (q := q) (st := st) HT.out (by omega) hy2 ce cu))
              have e1 : (rd L (y + 1) == 34) = false := beq_eq_false_iff_ne.mpr fun h => ce (by rw [h]; decide)
              have e2 : (rd L (y + 1) == 92) = false := beq_eq_false_iff_ne.mpr fun h => ce (by rw [h]; decide)
              have e3 : (rd L (y + 1) == 47) = false := beq_eq_false_iff_ne.mpr fun h => ce (by rw [h]; decide)
              have e4 : (rd L (y + 1) == 98) = false := beq_eq_false_iff_ne.mpr fun h => ce (by rw [h]; decide)
              have e5 : (rd L (y + 1) == 102) = false := beq_eq_false_iff_ne.mpr fun h => ce (by rw [h]; decide)
              have e6 : (rd L (y + 1) == 110) = false := beq_eq_false_iff_ne.mpr fun h => ce (by rw [h]; decide)
              have e7 : (rd L (y + 1) == 114) = false := beq_eq_false_iff_ne.mpr fun h => ce (by rw [h]; decide)
              have e8 : (rd L (y + 1) == 116) = false := beq_eq_false_iff_ne.mpr fun h => ce (by rw [h]; decide)
              have e9 : (rd L (y + 1) == 117) = false := beq_eq_false_iff_ne.mpr cu
              clear ce cu
              go_wp2_with fail
              with_reducible refine (errUnexpectedEnd _ _ _ (by decide)).mono ?_
              rintro e w2 ⟨s', g, rfl, hg, hp, hb⟩
              have HP := Aside0.mk hp
              have HBB := Aside0.mk hb
              obtain ⟨hc, hf⟩ := bcell hb
              clear hp hb
              go_wp2_with fail
              exact bodyPost_ret (v := .tuple #[.slice none 0 0, .int .i64 0, .agg #[.int .i64 0, .bool false], .iface 86 (.pointer (some ⟨g, 0, none⟩))]) (by simp [results, Tryd.results89, go_sem, hc]) rfl (scan_bad HBAD.out HP.out hg HBB.out)
      by_cases c2 : rd L y = 34
      · as_aux_lemma =>
          have HEND := Aside0.mk (show Ends q L .text (cur + 1) (y + 1) from fun st => (HSR.out.same st).trans (txt_quote HT.out (by omega) hy1 c2))
          have hin2 := HT.out.inside (x := y) (by omega) hy1 (by omega)
          have HTEST := Aside0.mk HSR.out.hi.test
          rw [c2]
          clear c1 c2 hby
          go_wp2_with fail
          refine bodyPost_ret (v := .tuple #[.slice (some (ad.add (cur + 1).toNat)) (y.toNat - (cur + 1).toNat) (c - (cur + 1).toNat), .int .i64 (y + 1), .agg #[.int .i64 fe, .bool (Go.bits BinOp.and IntKind.u64 h' 9259542123273814144 != 0)], .nilIface]) (by simp [results, Tryd.results89, go_sem]) rfl ?_
          refine ⟨(((HBW _).out.trans (pw_below_drewN (Below.refl _ _) _)).setCell (Nat.le_refl _) _).setCell (Nat.le_refl _) _, .inl ⟨y + 1, fe, _, HEND.out, by omega, by omega, ?_, ?_, by rw [show y + 1 - 1 = y by omega]⟩⟩
          · rw [show y + 1 - 1 = y by omega]; exact HSR.out.esc
          · rw [show y + 1 - 1 = y by omega]; exact HTEST.out
      by_cases c3 : rd L y = 0
      · have HBAD := Aside0.mk (show Bad q L .text (cur + 1) _ from fun st => (HSR.out.same st).trans (txt_low HT.out (by omega) hy1 (by omega)))
        rw [c3]
        clear c1 c2 c3 hby
        go_wp2_with fail
        with_reducible refine (errUnexpectedEnd _ _ _ (by decide)).mono ?_
        rintro e w2 ⟨s', g, rfl, hg, hp, hb⟩
        have HP := Aside0.mk hp
        have HBB := Aside0.mk hb
        obtain ⟨hc, hf⟩ := bcell hb
        clear hp hb
        go_wp2_with fail
        exact bodyPost_ret (v := .tuple #[.slice none 0 0, .int .i64 0, .agg #[.int .i64 0, .bool false], .iface 86 (.pointer (some ⟨g, 0, none⟩))]) (by simp [results, Tryd.results89, go_sem, hc]) rfl (scan_bad HBAD.out HP.out hg HBB.out)
      have f1 : (rd L y == 92) = false := beq_eq_false_iff_ne.mpr c1
      have f2 : (rd L y == 34) = false := beq_eq_false_iff_ne.mpr c2
      have f3 : (rd L y == 0) = false := beq_eq_false_iff_ne.mpr c3
      by_cases c4 : rd L y < 32
      · have HBAD := Aside0.mk (show Bad q L .text (cur + 1) _ from fun st => (HSR.out.same st).trans (txt_low HT.out (by omega) hy1 (by omega)))
        have hqs := quoted_size q (rd L y) w HG.out (by omega) (by omega)
        clear c1 c2 c3
        go_wp2_with fail
        with_reducible refine (quoteChar q (rd L y) _ (HG.out.below ?b) (by omega) (by omega)).mono ?_
        case b => exact (by repeat (first | exact (HBW _).out | apply pw_below_drewN))
        rintro e w5 ⟨rfl, hb5⟩
        have HB5 := Aside0.mk hb5
        have hsz5 := hb5.size
        obtain ⟨hc5, hf5⟩ := bcell hb5
        clear hb5
        go_wp2_with fail
        with_reducible refine (errSyntax _ _ _).mono ?_
        rintro e w2 ⟨g, rfl, hg, hp, hb⟩
        have HP := Aside0.mk hp
        have HBB := Aside0.mk (below_step HB5.out hb)
        have hg2 := Nat.le_trans hsz5 hg
        obtain ⟨hc, hf⟩ := bcell HBB.out
        clear hp hb hc5 hf5
        go_wp2_with fail
        exact bodyPost_ret (v := .tuple #[.slice none 0 0, .int .i64 0, .agg #[.int .i64 0, .bool false], .iface 86 (.pointer (some ⟨g, 0, none⟩))]) (by simp [results, Tryd.results89, go_sem, hc]) rfl (scan_bad HBAD.out HP.out hg2 HBB.out)
      · have HPL : Aside0 (∀ k, y ≤ k → k < y + 1 → Plain (rd L k)) := ⟨fun k h1 h2 => by
          have : k = y := by omega
          rw [this]
          exact ⟨by omega, c2, c1⟩⟩
        have hin2 := HT.out.inside (x := y) (by omega) hy1 (by omega)
        have HBY := Aside0.mk (Hi.byte hby.1 hby.2)
        clear c1 c2 c3
        go_wp2_with fail
        go_roundg g0
        case measure => omega
        case rel =>
          refine ⟨y + 1, fe, _, rfl, rfl, rfl, ⟨HSR.out.plain HT.out h0 (by omega) (by omega) HPL.out (HSR.out.hi.or (HBY.out.iff ⟨fun h => ⟨y, by omega, by omega, h⟩, fun ⟨k, h1, h2, h3⟩ => ?_⟩)), by omega⟩, by repeat (first | exact Drawn0.refl _ | apply Drawn0.step)⟩
          have : k = y := by omega
          rw [← this]
          exact h3
end Go.Proofs.YtfkagnpdapkaaaaDoor.Err
