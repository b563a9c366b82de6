/- formatString: a text is taken and written as the plain function says. -/
import Derived.Test.YtbikiibpjdiaaaaDoorFC
import Derived.Deep.RegionLaw
import Derived.Deep.AppendLies
namespace Go.Proofs.YtbikiibpjdiaaaaDoor.Err
open Go.RowKit Go.Proofs.YtbikiibpjdiaaaaDoorW.PrintWords Go.Proofs.YtbikiibpjdiaaaaDoorW.PrintLast Go.Proofs.YtbikiibpjdiaaaaDoorW.PrintMore
open Go.Proofs.YtbikiibpjdiaaaaDoor.Dig Go.Proofs.YtbikiibpjdiaaaaDoor.Tab Go.Proofs.YtbikiibpjdiaaaaDoor.QF
set_option linter.unusedVariables false
section
variable {N : Nat} {w w' : World} {v u : Value} {ad : Addr} {c : Nat} {L xs E : List Int} {ip : Value} {ind : Ind} {x y s : Int} {esc : Bool}
theorem fs_at (hT : Txt L) (h0 : 0 ≤ y) (h1 : y < L.length) : fs L esc L.length y =
  if rd L y = 34 then some (y + 1, [34])
  else if rd L y = 92 then match escF L (y + 1) with
   | none => none
   | some d => (fs L esc L.length d).map fun r => (r.1, seg L y d ++ r.2)
  else if rd L y < 32 then none
  else if esc = true ∧ sign (rd L y) then (fs L esc L.length (y + 1)).map fun r => (r.1, escS (rd L y) ++ r.2)
  else if esc = true ∧ lineEnd L y then (fs L esc L.length (y + 3)).map fun r => (r.1, escU (rd L (y + 2)) ++ r.2)
  else (fs L esc L.length (y + 1)).map fun r => (r.1, rd L y :: r.2) := by
 rw [fs_fuel hT L.length (L.length + 1) y h0 h1 (by omega) (by omega)]
 rfl
/-- The walk at a place of a text: what is written so far, and what comes. -/
def TextAt (L : List Int) (esc : Bool) (x s y : Int) (E : List Int) : Prop :=
 fstr L esc x = (fs L esc L.length y).map fun r => (r.1, E ++ seg L s y ++ r.2)
theorem ta_start (h0 : 0 ≤ x) (h1 : x + 1 < L.length) (hq : rd L x = 34) : TextAt L esc x x (x + 1) [] := by
 unfold TextAt fstr
 rw [seg_one x h0 (by omega), hq]
 cases fs L esc L.length (x + 1) <;> rfl
theorem ta_quote (h : TextAt L esc x s y E) (hT : Txt L) (h0 : 0 ≤ s) (hs : s ≤ y) (h1 : y < L.length) (hc : rd L y = 34) : fstr L esc x = some (y + 1, E ++ seg L s (y + 1)) := by
 unfold TextAt at h
 rw [h, fs_at hT (by omega) h1, if_pos hc, ← seg_app s y (y + 1) h0 hs (by omega) (by omega), seg_one y (by omega) h1, hc]
 simp
theorem ta_low (h : TextAt L esc x s y E) (hT : Txt L) (h0 : 0 ≤ s) (hs : s ≤ y) (h1 : y < L.length) (hc : rd L y < 32) : fstr L esc x = none := by
 unfold TextAt at h
 rw [h, fs_at hT (by omega) h1, if_neg (by omega), if_neg (by omega), if_pos hc]
 rfl
theorem ta_noesc (h : TextAt L esc x s y E) (hT : Txt L) (h0 : 0 ≤ s) (hs : s ≤ y) (h1 : y < L.length) (hc : rd L y = 92) (hn : escF L (y + 1) = none) : fstr L esc x = none := by
 unfold TextAt at h
 rw [h, fs_at hT (by omega) h1, if_neg (by omega), if_pos hc, hn]
 rfl
theorem ta_esc {d : Int} (h : TextAt L esc x s y E) (hT : Txt L) (h0 : 0 ≤ s) (hs : s ≤ y) (h1 : y < L.length) (hc : rd L y = 92) (hd : escF L (y + 1) = some d) (hg : y < d ∧ d < L.length) : TextAt L esc x s d E := by
 unfold TextAt at h ⊢
 rw [h, fs_at hT (by omega) h1, if_neg (by omega), if_pos hc, hd, ← seg_app s y d h0 hs (by omega) (by omega)]
 cases hf : fs L esc L.length d <;> simp [hf]
theorem ta_sign (h : TextAt L true x s y E) (hT : Txt L) (h0 : 0 ≤ s) (hs : s ≤ y) (h1 : y < L.length) (hc : sign (rd L y)) : TextAt L true x (y + 1) (y + 1) (E ++ seg L s y ++ escS (rd L y)) := by
 unfold TextAt at h ⊢
 have hc2 := hc
 unfold sign at hc2
 rw [h, fs_at hT (by omega) h1, if_neg (by omega), if_neg (by omega), if_neg (by omega), if_pos ⟨rfl, hc⟩, seg_nil]
 cases fs L true L.length (y + 1) <;> simp
theorem ta_line (h : TextAt L true x s y E) (hT : Txt L) (h0 : 0 ≤ s) (hs : s ≤ y) (h1 : y < L.length) (hc : lineEnd L y) : TextAt L true x (y + 3) (y + 3) (E ++ seg L s y ++ escU (rd L (y + 2))) := by
 unfold TextAt at h ⊢
 have hc2 := hc.1
 rw [h, fs_at hT (by omega) h1, if_neg (by omega), if_neg (by omega), if_neg (by omega), if_neg (fun h => by have := h.2; unfold sign at this; omega), if_pos ⟨rfl, hc⟩, seg_nil]
 cases fs L true L.length (y + 3) <;> simp
theorem ta_other (h : TextAt L esc x s y E) (hT : Txt L) (h0 : 0 ≤ s) (hs : s ≤ y) (h1 : y < L.length) (c1 : rd L y ≠ 34) (c2 : rd L y ≠ 92) (c3 : ¬ rd L y < 32) (c4 : ¬ (esc = true ∧ sign (rd L y))) (c5 : ¬ (esc = true ∧ lineEnd L y)) : TextAt L esc x s (y + 1) E := by
 unfold TextAt at h ⊢
 rw [h, fs_at hT (by omega) h1, if_neg c1, if_neg c2, if_neg c3, if_neg c4, if_neg c5, ← seg_app s y (y + 1) h0 hs (by omega) (by omega), seg_one y (by omega) h1]
 cases fs L esc L.length (y + 1) <;> simp
theorem ta_plain {b : Int} (h : TextAt L false x s y E) (hT : Txt L) (h0 : 0 ≤ s) (hs : s ≤ y) (hb : b < L.length) (hy : y ≤ b) (hp : ∀ k, y ≤ k → k < b → Plain (rd L k)) : TextAt L false x s b E := by
 unfold TextAt at h ⊢
 rw [h, fs_plain hT hb (b - y).toNat y (by omega) hy hp (by omega), ← seg_app s y b h0 hs hy (by omega)]
 cases fs L false L.length b <;> simp
/-- The bytes of a text that are appended. -/
theorem src_seg (hB : Buf w ad c L) (h0 : 0 ≤ s) (hs : s ≤ y) (hy : y ≤ L.length) {m k : Nat} (hm : m = (y - s).toNat) : Src Tryd.prog 1 22 (.slice (some (ad.add s.toNat)) m k) (seg L s y).length (nums .u8 (seg L s y)) w := by
 refine src_slice (by rw [seg_len s y h0 hs hy, hm]) (fun j u hu => ?_)
 unfold nums at hu
 rw [List.getElem?_map] at hu
 obtain ⟨z, hz, rfl⟩ := Option.map_eq_some_iff.1 hu
 have hj : j < (seg L s y).length := (List.getElem?_eq_some_iff.1 hz).1
 rw [seg_len s y h0 hs hy] at hj
 rw [seg_get s y j h0 (by omega) hy] at hz
 have h7 := hB.at_ (s + j) (by omega) (by omega)
 rw [add_add, show s.toNat + j = (s + j).toNat by omega, h7, Option.some.inj hz]
theorem src_new {ys : List Int} {b : Nat} (h : ∃ vs, w.heap[b]? = some (.cells vs 5 (0, 0)) ∧ vs.toList = nums .u8 ys) {m k : Nat} (hm : m = ys.length) : Src Tryd.prog 1 22 (.slice (some ⟨b, 0, none⟩) m k) ys.length (nums .u8 ys) w := by
 obtain ⟨vs, hb, hv⟩ := h
 exact src_slice hm (by rw [← hv]; exact World.news_of_block hb)
theorem line_all : ∀ n : Fin 256, ¬ (n.val = 168 ∨ n.val = 169) → (Go.bits .andNot .u8 ((n.val : Nat) : Int) 1 == 168) = false := by decide +kernel
theorem not_line (z : Int) (h0 : 0 ≤ z) (h1 : z < 256) (h : ¬ (z = 168 ∨ z = 169)) : (Go.bits .andNot .u8 z 1 == 168) = false := by
 have := line_all ⟨z.toNat, by omega⟩ (by show ¬ (z.toNat = 168 ∨ z.toNat = 169); omega)
 simpa [Int.toNat_of_nonneg h0] using this
set_option maxRecDepth 100000 in
set_option maxHeartbeats 8000000 in
theorem formatString_esc (hC : Ctx N w v ad c L ip ind) (ho : Own N w v xs) (hr : Room xs L x) (h0 : 0 ≤ x) (h1 : x < L.length) (hq : rd L x = 34) :
  Calls Tryd.prog 80 #[v, .slice (some ad) L.length c, .int .i64 x, .bool true] w (FmtAns N w v xs (fstr L true x)) := by
 have HC := Aside0.mk hC
 have HO := Aside0.mk ho
 have hin := hC.txt.inside h0 h1 (by omega)
 have hsm := hC.txt.small
 have HT := Aside0.mk hC.txt
 have HST : Aside0 (TextAt L true x x (x + 1) []) := ⟨ta_start h0 (by omega) hq⟩
 have HR : Aside0 ((xs.length : Int) ≤ 60000000000000) := ⟨by unfold Room at hr; omega⟩
 have e1 : wrap64 (x + 1) = x + 1 := by unfold wrap64; omega
 clear hC ho hr hq
 go_enter Tryd.func80, Tryd.ntmps80
 go_wp2_with fail
 go_loopg [0, 2, 11] (L.length + 1) (fun kq v0 v2 v11 w' => ∃ (y s : Int) (E : List Int), v2 = .int .i64 y ∧ v11 = .int .i64 s ∧ Aside0 (x + 1 ≤ y ∧ y < L.length ∧ x ≤ s ∧ s ≤ y ∧ (E.length : Int) ≤ 6 * (s - x) ∧ (L.length : Int) + 1 ≤ y + kq) ∧ Aside0 (TextAt L true x s y E) ∧ Aside0 (Own N w' v0 (xs ++ E)) ∧ Aside0 (Grew w v w' v0))
 case atStart => exact ⟨x + 1, x, [], rfl, rfl, ⟨by omega, by omega, by omega, by omega, by simp, by omega⟩, HST, ⟨by rw [List.append_nil]; exact HO.out⟩, ⟨Grew.refl _ _⟩⟩
 case round =>
  obtain ⟨y, s, E, rfl, rfl, HA, HTA, HOW, HG⟩ := hrel
  obtain ⟨a1, a2, a3, a4, a5, a6⟩ := HA.out
  have hCt := HC.out.grew HO.out HG.out
  have hxy := hCt.buf.at_ y (by omega) a2
  have HCT := Aside0.mk hCt
  have hby := hCt.buf.byte y (by omega) a2
  clear hCt HA
  obtain _ | g0 := gk
  ·exfalso; omega
  have e2 : wrap64 (y + 1) = y + 1 := by unfold wrap64; omega
  by_cases c1 : rd L y = 34
  ·rw [c1] at hxy
   have HRES := Aside0.mk (ta_quote HTA.out HT.out (by omega) a4 a2 c1)
   have g1 : (s ≤ y + 1) = True := eq_true (by omega)
   have g2 : (0 ≤ s) = True := eq_true (by omega)
   have g3 : (y + 1 ≤ (c : Int)) = True := eq_true (by have := HC.out.buf.cap; omega)
   have HA := Aside0.mk (And.intro a1 (And.intro a2 (And.intro a3 (And.intro a4 a5))))
   have g4 : s.toNat < c := by have := HC.out.buf.cap; omega
   have g5 : 0 ≤ y := by omega
   clear a1 a3 a4 a5 a6
   go_wp2_with (first | ((with_reducible refine gate_builtin (b := .append) (xs := #[.tmp 73, .tmp 77]) rfl ?_); at_builtin; refine wpList_app rfl (.tmp 73) (.tmp 77) 22 rfl u0 _ (xs ++ E) (seg L s (y + 1)) rfl rfl HOW.out ?aS ?aB ?aN ?_; (case aS => exact src_seg HCT.out.buf (by have := HA.out; omega) (by have := HA.out; omega) (by have := HA.out; omega) (by have := HA.out; omega)); (case aB => have := HA.out; have := HR.out; rw [List.length_append, seg_len s (y + 1) (by omega) (by omega) (by omega)]; omega); (case aN => exact HCT.out.size); intro v1 w1 ho1 hg1; have HO1 := Aside0.mk ho1; have HG1 := Aside0.mk hg1; clear ho1 hg1))
   refine bodyPost_ret (v := .tuple #[v1, .int .i64 (y + 1), .bool true]) ?_ rfl ?_
   ·simp [results, Tryd.results80, go_sem]
   show FmtAns N w v xs (fstr L true x) _ _
   rw [HRES.out]
   exact ⟨v1, rfl, by rw [← List.append_assoc]; exact HO1.out, HG.out.trans HG1.out⟩
  have f1 : (rd L y == 34) = false := beq_eq_false_iff_ne.mpr c1
  by_cases c2 : rd L y = 92
  ·have f2 : (rd L y == 92) = true := beq_iff_eq.mpr c2
   have hin2 := HT.out.inside (by omega) a2 (by omega)
   have HCALL : Aside0 (∀ m, m = L.length - 1 → Calls Tryd.prog 71 #[.slice (some ad) m c, .int .i64 (y + 1)] wr fun e w' => e = .returned (.int .i64 (escI L (y + 1))) ∧ Drawn0 wr w') := ⟨fun m hm => esc_call HCT.out.buf hm (y + 1) (by omega) (by omega)⟩
   have g1 : (0 ≤ (L.length : Int) - 1) = True := eq_true (by omega)
   have g3 : ((L.length : Int) - 1 ≤ (c : Int)) = True := eq_true (by have := HC.out.buf.cap; omega)
   have g5 : 0 ≤ y := by omega
   have e3 : wrap64 ((L.length : Int) - 1) = (L.length : Int) - 1 := by unfold wrap64; omega
   cases hd : escF L (y + 1) with
   | none =>
    have HRES := Aside0.mk (ta_noesc HTA.out HT.out (by omega) a4 a2 c2 hd)
    have he : escI L (y + 1) = -1 := by unfold escI; rw [hd]
    rw [he] at HCALL
    have HA := Aside0.mk (And.intro a1 (And.intro a3 (And.intro a4 a5)))
    clear a1 a3 a4 a5 a6 hd he hin2 hby
    go_wp2_with fail
    with_reducible refine (HCALL.out _ rfl).mono ?_
    rintro e w1 ⟨rfl, ⟨m1, rfl⟩⟩
    go_wp2_with fail
    refine bodyPost_ret (v := .tuple #[u0, .int .i64 0, .bool false]) ?_ rfl ?_
    ·simp [results, Tryd.results80, go_sem]
    show FmtAns N w v xs (fstr L true x) _ _
    rw [HRES.out]
    exact ⟨_, u0, rfl, HG.out.drewN m1⟩
   | some d =>
    have hg := escF_gt HT.out (x := y + 1) (by omega) (by omega) hd
    have HTA2 := Aside0.mk (ta_esc HTA.out HT.out (by omega) a4 a2 c2 hd ⟨by omega, hg.2⟩)
    have he : escI L (y + 1) = d := by unfold escI; rw [hd]
    rw [he] at HCALL
    have hd0 : ¬ d < 0 := by omega
    have HA := Aside0.mk (And.intro a1 (And.intro a3 (And.intro a4 (And.intro a5 (And.intro a6 hg)))))
    clear a1 a3 a4 a5 a6 hd he hin2 hby hg
    go_wp2_with fail
    with_reducible refine (HCALL.out _ rfl).mono ?_
    rintro e w1 ⟨rfl, ⟨m1, rfl⟩⟩
    go_wp2_with fail
    go_roundg g0
    case measure => omega
    case rel => exact ⟨d, s, E, rfl, rfl, ⟨by have := HA.out; omega, by have := HA.out; omega, by have := HA.out; omega, by have := HA.out; omega, by have := HA.out; omega, by have := HA.out; omega⟩, HTA2, ⟨HOW.out⟩, ⟨HG.out.drewN m1⟩⟩
  have f2 : (rd L y == 92) = false := beq_eq_false_iff_ne.mpr c2
  by_cases c3 : rd L y < 32
  ·have f3 : decide (rd L y < 32) = true := decide_eq_true c3
   have HRES := Aside0.mk (ta_low HTA.out HT.out (by omega) a4 a2 c3)
   have g5 : 0 ≤ y := by omega
   clear a1 a3 a4 a5 a6 hby
   go_wp2_with fail
   refine bodyPost_ret (v := .tuple #[u0, .int .i64 0, .bool false]) ?_ rfl ?_
   ·simp [results, Tryd.results80, go_sem]
   show FmtAns N w v xs (fstr L true x) _ _
   rw [HRES.out]
   exact ⟨_, u0, rfl, HG.out⟩
  have f3 : decide (rd L y < 32) = false := decide_eq_false c3
  have g5 : 0 ≤ y := by omega
  by_cases c4 : sign (rd L y)
  ·have HTA2 := Aside0.mk (ta_sign HTA.out HT.out (by omega) a4 a2 c4)
   have hin2 := HT.out.inside g5 a2 (by unfold sign at c4; omega)
   have g1 : (s ≤ y) = True := eq_true (by omega)
   have g2 : (0 ≤ s) = True := eq_true (by omega)
   have g3 : (y ≤ (c : Int)) = True := eq_true (by have := HC.out.buf.cap; omega)
   have g4 : s.toNat < c := by have := HC.out.buf.cap; omega
   have HA := Aside0.mk (And.intro a1 (And.intro a2 (And.intro a3 (And.intro a4 (And.intro a5 (And.intro a6 hin2))))))
   unfold sign at c4
   clear a1 a3 a4 a5 a6 hin2 hby c1 c2 c3 f1 f2 f3
   have k1 : Go.bits .and .u8 60 15 = 12 := by decide +kernel
   have k2 : Go.bits .and .u8 62 15 = 14 := by decide +kernel
   have k3 : Go.bits .and .u8 38 15 = 6 := by decide +kernel
   generalize rd L y = ch at c4 hxy HTA2
   obtain ⟨T3, hT3⟩ : ∃ T3, T3 = escS ch := ⟨_, rfl⟩
   rw [← hT3] at HTA2
   have HT3 := Aside0.mk hT3
   clear hT3
   have HL2 : Aside0 ((E ++ seg L s y).length = E.length + (y - s).toNat) := ⟨by have := HA.out; rw [List.length_append, seg_len s y (by omega) (by omega) (by omega)]⟩
   rcases c4 with rfl | rfl | rfl
   all_goals
    go_wp2_with (first | ((with_reducible refine gate_builtin (b := .append) (xs := #[.tmp 112, .tmp 116]) rfl ?_); at_builtin; refine wpList_app rfl (.tmp 112) (.tmp 116) 22 rfl u0 _ (xs ++ E) (seg L s y) rfl rfl HOW.out ?aS ?aB ?aN ?_; (case aS => exact src_seg HCT.out.buf (by have := HA.out; omega) (by have := HA.out; omega) (by have := HA.out; omega) (by have := HA.out; omega)); (case aB => have := HA.out; have := HR.out; rw [List.length_append, seg_len s y (by omega) (by omega) (by omega)]; omega); (case aN => exact HCT.out.size); intro v1 w1 ho1 hg1; have HO1 := Aside0.mk ho1; have HG1 := Aside0.mk hg1; clear ho1 hg1))
    go_region_law ((apply step_app (v := v1) (x := .slice (some ⟨w1.heap.size, 0, none⟩) 6 6) (xs := xs ++ E ++ seg L s y) (ys := T3) (N := N)); (case hg => rfl); (case ho => rfl); (case hs => rfl); (case hx => rfl); (case hown => exact HO1.out.move (below_alloc (Below.refl _ _) _).drew); (case hsrc => (refine src_new (b := w1.heap.size) ?_ (by rw [HT3.out]; rfl); exact ⟨_, blk_new w1 _, by rw [HT3.out]; rfl⟩)); (case hb => (have := HA.out; have := HR.out; have := HL2.out; have h6 : T3.length = 6 := (by rw [HT3.out]; rfl); rw [List.append_assoc, List.length_append, this]; omega)); (case hN => (have := HCT.out.size; have := HG1.out.size; simp; omega)); (intro v2 w2 ho2 hg2; have HO2 := Aside0.mk ho2; have HG2 := Aside0.mk hg2; clear ho2 hg2))
    all_goals
     go_wp2_with fail
     go_roundg g0
     case measure => omega
     case rel => exact ⟨y + 1, y + 1, E ++ seg L s y ++ T3, rfl, rfl, ⟨by have := HA.out; omega, by have := HA.out; omega, by have := HA.out; omega, by omega, by have := HA.out; have := HL2.out; have h6 : T3.length = 6 := (by rw [HT3.out]; rfl); rw [List.length_append, this]; omega, by have := HA.out; omega⟩, HTA2, ⟨by have := HO2.out; simpa only [List.append_assoc] using this⟩, ⟨HG.out.trans (HG1.out.trans (((Grew.refl w1 v1).alloc _).drew.trans HG2.out))⟩⟩
  ·have f60 : (rd L y == 60) = false := beq_eq_false_iff_ne.mpr (fun h => c4 (by unfold sign; omega))
   have f62 : (rd L y == 62) = false := beq_eq_false_iff_ne.mpr (fun h => c4 (by unfold sign; omega))
   have f38 : (rd L y == 38) = false := beq_eq_false_iff_ne.mpr (fun h => c4 (by unfold sign; omega))
   have hin2 := HT.out.inside g5 a2 (by omega)
   have e2' : wrap64 (y + 2) = y + 2 := by unfold wrap64; omega
   have e3' : wrap64 (y + 3) = y + 3 := by unfold wrap64; omega
   have en : wrap64 ((L.length : Int) - 1) = (L.length : Int) - 1 := by unfold wrap64; omega
   by_cases c5 : lineEnd L y
   ·have HTA2 := Aside0.mk (ta_line HTA.out HT.out (by omega) a4 a2 c5)
    obtain ⟨d1, d2, d3, d4⟩ := c5
    have hx1 := HCT.out.buf.at_ (y + 1) (by omega) (by omega)
    have hx2 := HCT.out.buf.at_ (y + 2) (by omega) (by omega)
    rw [d1] at hxy
    rw [d3] at hx1
    have b2 : decide (y + 2 < (L.length : Int) - 1) = true := decide_eq_true d2
    have y1 : (0 ≤ y + 1) = True := eq_true (by omega)
    have y2 : (y + 1 < (L.length : Int)) = True := eq_true (by omega)
    have y3 : (0 ≤ y + 2) = True := eq_true (by omega)
    have y4 : (y + 2 < (L.length : Int)) = True := eq_true (by omega)
    have g1 : (s ≤ y) = True := eq_true (by omega)
    have g2 : (0 ≤ s) = True := eq_true (by omega)
    have g3 : (y ≤ (c : Int)) = True := eq_true (by have := HC.out.buf.cap; omega)
    have g4 : s.toNat < c := by have := HC.out.buf.cap; omega
    have HA := Aside0.mk (And.intro a1 (And.intro a2 (And.intro a3 (And.intro a4 (And.intro a5 (And.intro a6 d2))))))
    have k1 : Go.bits .andNot .u8 168 1 = 168 := by decide +kernel
    have k2 : Go.bits .andNot .u8 169 1 = 168 := by decide +kernel
    have k3 : Go.bits .and .u8 168 15 = 8 := by decide +kernel
    have k4 : Go.bits .and .u8 169 15 = 9 := by decide +kernel
    have HB : Aside0 (∀ v' w', Grew wr u0 w' v' → Buf w' ad c L) := ⟨fun v' w' hg => (HCT.out.grew HOW.out hg).buf⟩
    clear a1 a3 a4 a5 a6 hin2 hby c1 c2 c3 c4 f1 f2 f3 f60 f62 f38 d1 d2 d3
    have HZ : Aside0 (rd L (y + 2) = rd L (y + 2)) := ⟨rfl⟩
    obtain ⟨z, hz⟩ : ∃ z, z = rd L (y + 2) := ⟨_, rfl⟩
    obtain ⟨T3, hT3⟩ : ∃ T3, T3 = escU (rd L (y + 2)) := ⟨_, rfl⟩
    rw [← hT3] at HTA2
    rw [← hz] at d4 hx2 hT3
    have HZZ := Aside0.mk hz
    have HT3 := Aside0.mk hT3
    clear hT3 hz HZ
    have HL2 : Aside0 ((E ++ seg L s y).length = E.length + (y - s).toNat) := ⟨by have := HA.out; rw [List.length_append, seg_len s y (by omega) (by omega) (by omega)]⟩
    rcases d4 with rfl | rfl
    all_goals
     go_wp2_with (first | ((with_reducible refine gate_builtin (b := .append) (xs := #[.tmp 160, .tmp 164]) rfl ?_); at_builtin; refine wpList_app rfl (.tmp 160) (.tmp 164) 22 rfl u0 _ (xs ++ E) (seg L s y) rfl rfl HOW.out ?aS ?aB ?aN ?_; (case aS => exact src_seg HCT.out.buf (by have := HA.out; omega) (by have := HA.out; omega) (by have := HA.out; omega) (by have := HA.out; omega)); (case aB => have := HA.out; have := HR.out; rw [List.length_append, seg_len s y (by omega) (by omega) (by omega)]; omega); (case aN => exact HCT.out.size); intro v1 w1 ho1 hg1; have HO1 := Aside0.mk ho1; have HG1 := Aside0.mk hg1; clear ho1 hg1; have hx2' := (HB.out _ _ HG1.out).at_ (y + 2) (by omega) (by have := HA.out; omega); rw [← HZZ.out] at hx2') | ((with_reducible refine gate_builtin (b := .append) (xs := #[.tmp 166, .tmp 174]) rfl ?_); at_builtin; refine wpList_app rfl (.tmp 166) (.tmp 174) 22 rfl v1 _ (xs ++ E ++ seg L s y) T3 rfl rfl (HO1.out.move (below_alloc (Below.refl _ _) _)) ?aS ?aB ?aN ?_; (case aS => (refine src_new (b := w1.heap.size) ?_ (by rw [HT3.out]; rfl); exact ⟨_, blk_new w1 _, by rw [HT3.out]; rfl⟩)); (case aB => (have := HA.out; have := HR.out; have := HL2.out; have h6 : T3.length = 6 := (by rw [HT3.out]; rfl); rw [List.append_assoc, List.length_append, this]; omega)); (case aN => (have := HCT.out.size; have := HG1.out.size; simp; omega)); intro v2 w2 ho2 hg2; have HO2 := Aside0.mk ho2; have HG2 := Aside0.mk hg2; clear ho2 hg2))
     go_roundg g0
     case measure => omega
     case rel => exact ⟨y + 3, y + 3, E ++ seg L s y ++ T3, rfl, rfl, ⟨by have := HA.out; omega, by have := HA.out; omega, by have := HA.out; omega, by omega, by have := HA.out; have := HL2.out; have h6 : T3.length = 6 := (by rw [HT3.out]; rfl); rw [List.length_append, this]; omega, by have := HA.out; omega⟩, HTA2, ⟨by have := HO2.out; simpa only [List.append_assoc] using this⟩, ⟨HG.out.trans (HG1.out.trans (((Grew.refl w1 v1).alloc _).trans HG2.out))⟩⟩
   ·have HTA2 := Aside0.mk (ta_other HTA.out HT.out (by omega) a4 a2 c1 c2 c3 (fun h => c4 h.2) (fun h => c5 h.2))
    have HA := Aside0.mk (And.intro a1 (And.intro a2 (And.intro a3 (And.intro a4 (And.intro a5 (And.intro a6 hin2))))))
    have HNL := Aside0.mk c5
    clear a1 a3 a4 a5 a6 hin2 hby c1 c2 c3 c4 c5
    by_cases d1 : rd L y = 226
    ·have z1 : (rd L y == 226) = true := beq_iff_eq.mpr d1
     by_cases d2 : y + 2 < (L.length : Int) - 1
     ·have b2 : decide (y + 2 < (L.length : Int) - 1) = true := decide_eq_true d2
      have y1 : (0 ≤ y + 1) = True := eq_true (by omega)
      have y2 : (y + 1 < (L.length : Int)) = True := eq_true (by omega)
      have hx1 := HCT.out.buf.at_ (y + 1) (by omega) (by omega)
      by_cases d3 : rd L (y + 1) = 128
      ·have z3 : (rd L (y + 1) == 128) = true := beq_iff_eq.mpr d3
       have hx2 := HCT.out.buf.at_ (y + 2) (by omega) (by omega)
       have hb2 := HCT.out.buf.byte (y + 2) (by omega) (by omega)
       have y3 : (0 ≤ y + 2) = True := eq_true (by omega)
       have y4 : (y + 2 < (L.length : Int)) = True := eq_true (by omega)
       have z4 : (Go.bits .andNot .u8 (rd L (y + 2)) 1 == 168) = false := not_line _ hb2.1 hb2.2 (fun h => HNL.out ⟨d1, d2, d3, h⟩)
       clear hb2 d1 d2 d3
       go_wp2_with fail
       go_roundg g0
       case measure => omega
       case rel => exact ⟨y + 1, s, E, rfl, rfl, ⟨by have := HA.out; omega, by have := HA.out; omega, by have := HA.out; omega, by have := HA.out; omega, by have := HA.out; omega, by have := HA.out; omega⟩, HTA2, HOW, HG⟩
      ·have z3 : (rd L (y + 1) == 128) = false := beq_eq_false_iff_ne.mpr d3
       clear d1 d2 d3
       go_wp2_with fail
       go_roundg g0
       case measure => omega
       case rel => exact ⟨y + 1, s, E, rfl, rfl, ⟨by have := HA.out; omega, by have := HA.out; omega, by have := HA.out; omega, by have := HA.out; omega, by have := HA.out; omega, by have := HA.out; omega⟩, HTA2, HOW, HG⟩
     ·have b2 : decide (y + 2 < (L.length : Int) - 1) = false := decide_eq_false d2
      clear d1 d2
      go_wp2_with fail
      go_roundg g0
      case measure => omega
      case rel => exact ⟨y + 1, s, E, rfl, rfl, ⟨by have := HA.out; omega, by have := HA.out; omega, by have := HA.out; omega, by have := HA.out; omega, by have := HA.out; omega, by have := HA.out; omega⟩, HTA2, HOW, HG⟩
    ·have z1 : (rd L y == 226) = false := beq_eq_false_iff_ne.mpr d1
     clear d1
     go_wp2_with fail
     go_roundg g0
     case measure => omega
     case rel => exact ⟨y + 1, s, E, rfl, rfl, ⟨by have := HA.out; omega, by have := HA.out; omega, by have := HA.out; omega, by have := HA.out; omega, by have := HA.out; omega, by have := HA.out; omega⟩, HTA2, HOW, HG⟩
end
end Go.Proofs.YtbikiibpjdiaaaaDoor.Err
/- formatString where no signs are told by escapes: words of eight bytes, then byte by byte. -/
namespace Go.Proofs.YtbikiibpjdiaaaaDoor.Err
open Go.RowKit Go.Proofs.YtbikiibpjdiaaaaDoorW.PrintWords Go.Proofs.YtbikiibpjdiaaaaDoorW.PrintLast Go.Proofs.YtbikiibpjdiaaaaDoorW.PrintMore
open Go.Proofs.YtbikiibpjdiaaaaDoor.Dig Go.Proofs.YtbikiibpjdiaaaaDoor.Tab Go.Proofs.YtbikiibpjdiaaaaDoor.QF
set_option linter.unusedVariables false
section
variable {N : Nat} {w w' : World} {v u : Value} {ad : Addr} {c : Nat} {L xs E : List Int} {ip : Value} {ind : Ind} {x y s : Int}
/-- The eight bytes at a place, as the pass reads them. -/
theorem le64_call (hB : Buf w ad c L) (b : Int) (h0 : 0 ≤ b) (h8 : b + 8 ≤ L.length) {W : Int} (hW : gojsonformat_le64.f (L.drop b.toNat) = some W) {m k : Nat} (hm : m = L.length - b.toNat) (hk : k = c - b.toNat) :
  Calls Tryd.prog 69 #[.slice (some (ad.add b.toNat)) m k] w fun e w' => e = .returned (.int .u64 W) ∧ Drawn0 w w' := by
 have hl : (L.drop b.toNat).length = m := by rw [List.length_drop, hm]
 have hcap := hB.cap
 have hR := ReadsOf.drop_ (c := c) (Kd.reads_of_C (enc := Value.int .u8) (d := (0 : Int)) (h1 := fun _ => rfl) hB.C) b.toNat (by omega) hB.cap
 rw [if_neg (by omega)] at hR
 have hc := gojsonformat_le64.calls (some (ad.add b.toNat)) k (L.drop b.toNat) W w (by rw [hl, hm]; exact Kd.C_of_reads (h1 := fun _ => rfl) hR) (by rw [hl]; omega) hW
 rw [hl] at hc
 exact hc
set_option maxRecDepth 100000 in
set_option maxHeartbeats 8000000 in
theorem formatString_plain (hC : Ctx N w v ad c L ip ind) (ho : Own N w v xs) (hr : Room xs L x) (h0 : 0 ≤ x) (h1 : x < L.length) (hq : rd L x = 34) :
  Calls Tryd.prog 80 #[v, .slice (some ad) L.length c, .int .i64 x, .bool false] w (FmtAns N w v xs (fstr L false x)) := by
 have HC := Aside0.mk hC
 have HO := Aside0.mk ho
 have hin := hC.txt.inside h0 h1 (by omega)
 have hsm := hC.txt.small
 have HT := Aside0.mk hC.txt
 have HST : Aside0 (TextAt L false x x (x + 1) []) := ⟨ta_start h0 (by omega) hq⟩
 have HR : Aside0 ((xs.length : Int) ≤ 60000000000000) := ⟨by unfold Room at hr; omega⟩
 have e1 : wrap64 (x + 1) = x + 1 := by unfold wrap64; omega
 clear hC ho hr hq
 go_enter Tryd.func80, Tryd.ntmps80
 go_wp2_with fail
 go_loopg [0, 2, 11] (L.length + 1) (fun kq v0 v2 v11 w' => ∃ (y s : Int) (E : List Int), v2 = .int .i64 y ∧ v11 = .int .i64 s ∧ Aside0 (x + 1 ≤ y ∧ y < L.length ∧ x ≤ s ∧ s ≤ y ∧ (E.length : Int) ≤ 6 * (s - x) ∧ (L.length : Int) + 1 ≤ y + kq) ∧ Aside0 (TextAt L false x s y E) ∧ Aside0 (Own N w' v0 (xs ++ E)) ∧ Aside0 (Grew w v w' v0))
 case atStart => exact ⟨x + 1, x, [], rfl, rfl, ⟨by omega, by omega, by omega, by omega, by simp, by omega⟩, HST, ⟨by rw [List.append_nil]; exact HO.out⟩, ⟨Grew.refl _ _⟩⟩
 case round =>
  obtain ⟨y0, s, E, rfl, rfl, HA0, HTA0, HOW0, HG0⟩ := hrel
  obtain _ | g0 := gk
  ·exfalso; have := HA0.out; omega
  have HCT0 : Aside0 (Ctx N wr u0 ad c L ip ind) := ⟨HC.out.grew HO.out HG0.out⟩
  go_upto_if 25 with (fail)
  go_cut [2, 19, 20, 21, 22, 23] from 13 to 61 (fun v2 v19 v20 v21 v22 v23 wx => ∃ y : Int, v2 = .int .i64 y ∧ v19 = .int .i64 x ∧ v20 = .int .i64 x ∧ v21 = .int .i64 (x + 1) ∧ v22 = .slice (some ad) L.length c ∧ v23 = .int .i64 L.length ∧ Aside0 (y0 ≤ y ∧ y < L.length) ∧ Aside0 (TextAt L false x s y E) ∧ Drawn0 wr wx)
  case first =>
   have HM0 := HA0.out
   have HY0 := Aside0.mk HM0
   clear HM0
   go_wp2_with fail
   go_loopg [2] (L.length + 1) (fun kq v2 w' => ∃ b : Int, v2 = .int .i64 b ∧ Aside0 (y0 ≤ b ∧ b < L.length ∧ (L.length : Int) + 1 ≤ b + kq) ∧ Aside0 (TextAt L false x s b E) ∧ Drawn0 wr w')
   case atStart => exact ⟨y0, rfl, ⟨by have := HY0.out; omega, by have := HY0.out; omega, by have := HY0.out; omega⟩, HTA0, Drawn0.refl _⟩
   case round =>
    obtain ⟨b, rfl, HB, HTB, ⟨m1, rfl⟩⟩ := hrel
    obtain ⟨b1, b2, b3⟩ := HB.out
    obtain _ | g1 := gk
    ·exfalso; omega
    have hx0 : 0 ≤ b := by have := HY0.out; omega
    have e8 : wrap64 (b + 8) = b + 8 := by unfold wrap64; omega
    by_cases h8 : b + 8 ≤ L.length
    ·have d8 : decide (b + 8 ≤ (L.length : Int)) = true := decide_eq_true h8
     have g2 : (b ≤ (L.length : Int)) = True := eq_true (by omega)
     have g3 : b.toNat < c := by have := HC.out.buf.cap; omega
     have g4 : L.length ≤ c := HC.out.buf.cap
     obtain ⟨W, q1, q2, s1, a1, s2, a2, o1, s3, a3, o2, m, hW, hK, hm⟩ := word_at HT.out b hx0 h8
     have HW : Aside0 (∀ n, Calls Tryd.prog 69 #[.slice (some (ad.add b.toNat)) (L.length - b.toNat) (c - b.toNat)] (wr.drewN n) fun e w' => e = .returned (.int .u64 W) ∧ Drawn0 (wr.drewN n) w') := ⟨fun n => le64_call (HCT0.out.buf.drewN n) b hx0 h8 hW rfl rfl⟩
     have HM := Aside0.mk (And.intro b1 (And.intro b2 (And.intro b3 h8)))
     obtain ⟨k1, k2, k3, k4, k5, k6, k7, k8, k9, k10, k11⟩ := hK
     rcases hm with ⟨rfl, hp⟩ | ⟨hm0, t, j, j0, j1, htz, hq, hp, hnp⟩
     ·have hlt : b + 8 < L.length := by
       by_cases h9 : b + 8 < L.length
       ·exact h9
       ·exfalso
        have := hp ((L.length : Int) - 1) (by omega) (by omega)
        rw [HT.out.last] at this
        unfold Plain at this
        omega
      have HTB2 := Aside0.mk (ta_plain HTB.out HT.out (by have := HY0.out; omega) (by have := HY0.out; omega) hlt (by omega) hp)
      have HLT := Aside0.mk hlt
      clear hW hp b1 b2 b3 h8 hlt HB
      go_wp2_with fail
      with_reducible refine (HW.out _).mono ?_
      rintro e w1 ⟨rfl, ⟨m2, rfl⟩⟩
      go_wp2_with fail
      go_roundg g1
      case measure => omega
      case rel => exact ⟨b + 8, by first | rfl | rw [e8], ⟨by have := HM.out; omega, HLT.out, by have := HM.out; omega⟩, HTB2, by first | exact ⟨_, rfl⟩ | (repeat (first | exact Drawn0.refl _ | apply Drawn0.step))⟩
     ·have hlt : b + j < L.length := by omega
      have HTB2 := Aside0.mk (ta_plain HTB.out HT.out (by have := HY0.out; omega) (by have := HY0.out; omega) hlt (by omega) hp)
      have HLT := Aside0.mk (And.intro hlt j0)
      have hmf : (m == 0) = false := beq_eq_false_iff_ne.mpr hm0
      have HTZ : Aside0 (∀ n, Calls Tryd.prog 70 #[.int .u64 m] (wr.drewN n) fun e w' => e = .returned (.int .i64 t) ∧ Drawn0 (wr.drewN n) w') := ⟨fun n => tz64.calls m t (wr.drewN n) ⟨HCT0.out.tab.tab⟩ htz⟩
      have ej : wrap64 j = j := by unfold wrap64; omega
      have ebj : wrap64 (b + j) = b + j := by unfold wrap64; omega
      clear hW hp hnp b1 b2 b3 h8 hlt HB hm0 htz j0 j1
      go_wp2_with fail
      with_reducible refine (HW.out _).mono ?_
      rintro e w1 ⟨rfl, ⟨m2, rfl⟩⟩
      go_wp2_with fail
      with_reducible refine (HTZ.out _).mono ?_
      rintro e w1 ⟨rfl, ⟨m3, rfl⟩⟩
      go_wp2_with fail
      go_meet
      case rel => exact ⟨b + j, by first | rfl | simp [ebj], rfl, rfl, rfl, rfl, rfl, ⟨by have := HM.out; have := HLT.out; omega, HLT.out.1⟩, HTB2, by first | exact ⟨_, rfl⟩ | (repeat (first | exact Drawn0.refl _ | apply Drawn0.step))⟩
    ·have d8 : decide (b + 8 ≤ (L.length : Int)) = false := decide_eq_false h8
     clear h8
     go_wp2_with fail
     go_meet
     case rel => exact ⟨b, rfl, rfl, rfl, rfl, rfl, rfl, ⟨b1, b2⟩, HTB, by first | exact ⟨_, rfl⟩ | (repeat (first | exact Drawn0.refl _ | apply Drawn0.step))⟩
  case rest =>
   obtain ⟨y, rfl, rfl, rfl, rfl, rfl, rfl, HY, HTA, ⟨m1, rfl⟩⟩ := hcut
   obtain ⟨z1, a2⟩ := HY.out
   obtain ⟨a1, _, a3, a4, a5, a6⟩ := HA0.out
   have HOW : Aside0 (Own N (wr.drewN m1) u0 (xs ++ E)) := ⟨HOW0.out⟩
   have HG : Aside0 (Grew w v (wr.drewN m1) u0) := ⟨HG0.out.drewN m1⟩
   have hCt := HC.out.grew HO.out HG.out
   have hxy := hCt.buf.at_ y (by omega) a2
   have HCT := Aside0.mk hCt
   have hby := hCt.buf.byte y (by omega) a2
   clear hCt HA0 HTA0 HOW0 HY
   have g5 : 0 ≤ y := by omega
   have e2 : wrap64 (y + 1) = y + 1 := by unfold wrap64; omega
   have HA := Aside0.mk (And.intro (show x + 1 ≤ y by omega) (And.intro a2 (And.intro a3 (And.intro (show s ≤ y by omega) (And.intro a5 (show (L.length : Int) + 1 ≤ y + ((g0 + 1 : Nat) : Int) by omega))))))
   clear a1 a3 a4 a5 a6 z1
   by_cases c1 : rd L y = 34
   ·have HRES := Aside0.mk (ta_quote HTA.out HT.out (by have := HA.out; omega) (by have := HA.out; omega) a2 c1)
    rw [c1] at hxy
    have g1 : (s ≤ y + 1) = True := eq_true (by have := HA.out; omega)
    have g2 : (0 ≤ s) = True := eq_true (by have := HA.out; omega)
    have g3 : (y + 1 ≤ (c : Int)) = True := eq_true (by have := HC.out.buf.cap; omega)
    have g4 : s.toNat < c := by have := HA.out; have := HC.out.buf.cap; omega
    go_wp2_with (first | ((with_reducible refine gate_builtin (b := .append) (xs := #[.tmp 73, .tmp 77]) rfl ?_); at_builtin; refine wpList_app rfl (.tmp 73) (.tmp 77) 22 rfl u0 _ (xs ++ E) (seg L s (y + 1)) rfl rfl HOW.out ?aS ?aB ?aN ?_; (case aS => exact src_seg HCT.out.buf (by have := HA.out; omega) (by have := HA.out; omega) (by have := HA.out; omega) (by have := HA.out; omega)); (case aB => have := HA.out; have := HR.out; rw [List.length_append, seg_len s (y + 1) (by omega) (by omega) (by omega)]; omega); (case aN => exact HCT.out.size); intro v1 w1 ho1 hg1; have HO1 := Aside0.mk ho1; have HG1 := Aside0.mk hg1; clear ho1 hg1))
    refine bodyPost_ret (v := .tuple #[v1, .int .i64 (y + 1), .bool true]) ?_ rfl ?_
    ·simp [results, Tryd.results80, go_sem]
    show FmtAns N w v xs (fstr L false x) _ _
    rw [HRES.out]
    exact ⟨v1, rfl, by rw [← List.append_assoc]; exact HO1.out, HG.out.trans HG1.out⟩
   have f1 : (rd L y == 34) = false := beq_eq_false_iff_ne.mpr c1
   by_cases c2 : rd L y = 92
   ·have f2 : (rd L y == 92) = true := beq_iff_eq.mpr c2
    have hin2 := HT.out.inside (by omega) a2 (by omega)
    have HCALL : Aside0 (∀ n m, m = L.length - 1 → Calls Tryd.prog 71 #[.slice (some ad) m c, .int .i64 (y + 1)] (wr.drewN n) fun e w' => e = .returned (.int .i64 (escI L (y + 1))) ∧ Drawn0 (wr.drewN n) w') := ⟨fun n m hm => esc_call (HCT0.out.buf.drewN n) hm (y + 1) (by omega) (by omega)⟩
    have g1 : (0 ≤ (L.length : Int) - 1) = True := eq_true (by omega)
    have g3 : ((L.length : Int) - 1 ≤ (c : Int)) = True := eq_true (by have := HC.out.buf.cap; omega)
    have e3 : wrap64 ((L.length : Int) - 1) = (L.length : Int) - 1 := by unfold wrap64; omega
    cases hd : escF L (y + 1) with
    | none =>
     have HRES := Aside0.mk (ta_noesc HTA.out HT.out (by have := HA.out; omega) (by have := HA.out; omega) a2 c2 hd)
     have he : escI L (y + 1) = -1 := by unfold escI; rw [hd]
     rw [he] at HCALL
     clear hd he hin2 hby
     go_wp2_with fail
     with_reducible refine (HCALL.out _ _ rfl).mono ?_
     rintro e w1 ⟨rfl, ⟨m2, rfl⟩⟩
     go_wp2_with fail
     refine bodyPost_ret (v := .tuple #[u0, .int .i64 0, .bool false]) ?_ rfl ?_
     ·simp [results, Tryd.results80, go_sem]
     show FmtAns N w v xs (fstr L false x) _ _
     rw [HRES.out]
     exact ⟨_, u0, rfl, HG0.out.drewN _⟩
    | some d =>
     have hg := escF_gt HT.out (x := y + 1) (by omega) (by omega) hd
     have HTA2 := Aside0.mk (ta_esc HTA.out HT.out (by have := HA.out; omega) (by have := HA.out; omega) a2 c2 hd ⟨by omega, hg.2⟩)
     have he : escI L (y + 1) = d := by unfold escI; rw [hd]
     rw [he] at HCALL
     have hd0 : ¬ d < 0 := by omega
     have HA2 := Aside0.mk hg
     clear hd he hin2 hby hg
     go_wp2_with fail
     with_reducible refine (HCALL.out _ _ rfl).mono ?_
     rintro e w1 ⟨rfl, ⟨m2, rfl⟩⟩
     go_wp2_with fail
     go_roundg g0
     case measure => omega
     case rel => exact ⟨d, s, E, rfl, rfl, ⟨by have := HA.out; have := HA2.out; omega, by have := HA2.out; omega, by have := HA.out; omega, by have := HA.out; have := HA2.out; omega, by have := HA.out; omega, by have := HA.out; have := HA2.out; omega⟩, HTA2, ⟨HOW.out⟩, ⟨HG0.out.drewN _⟩⟩
   have f2 : (rd L y == 92) = false := beq_eq_false_iff_ne.mpr c2
   by_cases c3 : rd L y < 32
   ·have f3 : decide (rd L y < 32) = true := decide_eq_true c3
    have HRES := Aside0.mk (ta_low HTA.out HT.out (by have := HA.out; omega) (by have := HA.out; omega) a2 c3)
    clear hby
    go_wp2_with fail
    refine bodyPost_ret (v := .tuple #[u0, .int .i64 0, .bool false]) ?_ rfl ?_
    ·simp [results, Tryd.results80, go_sem]
    show FmtAns N w v xs (fstr L false x) _ _
    rw [HRES.out]
    exact ⟨_, u0, rfl, HG.out⟩
   have f3 : decide (rd L y < 32) = false := decide_eq_false c3
   have HTA2 := Aside0.mk (ta_other HTA.out HT.out (by have := HA.out; omega) (by have := HA.out; omega) a2 c1 c2 c3 (fun h => by cases h.1) (fun h => by cases h.1))
   have HIN := Aside0.mk (HT.out.inside (by omega) a2 (by omega))
   clear hby c1 c2 c3
   go_wp2_with fail
   go_roundg g0
   case measure => omega
   case rel => exact ⟨y + 1, s, E, rfl, rfl, ⟨by have := HA.out; omega, by have := HIN.out; omega, by have := HA.out; omega, by have := HA.out; omega, by have := HA.out; omega, by have := HA.out; omega⟩, HTA2, HOW, HG⟩
end
end Go.Proofs.YtbikiibpjdiaaaaDoor.Err
/- appendNewline, formatLiteral: what they write. -/
namespace Go.Proofs.YtbikiibpjdiaaaaDoor.Err
open Go.RowKit Go.Proofs.YtbikiibpjdiaaaaDoorW.PrintWords Go.Proofs.YtbikiibpjdiaaaaDoorW.PrintLast Go.Proofs.YtbikiibpjdiaaaaDoorW.PrintMore
open Go.Proofs.YtbikiibpjdiaaaaDoor.Dig Go.Proofs.YtbikiibpjdiaaaaDoor.Tab Go.Proofs.YtbikiibpjdiaaaaDoor.QF
set_option linter.unusedVariables false
section
variable {N : Nat} {w w' : World} {v u : Value} {ad : Addr} {c : Nat} {L xs E : List Int} {ip : Value} {ind : Ind} {x y s : Int}
theorem str_sb (ys : List Int) (hb : ∀ y ∈ ys, 0 ≤ y ∧ y < 256) : sb (strOfNums ys) = ys := by
 unfold sb strOfNums
 simp only [List.map_map]
 conv => rhs; rw [← List.map_id ys]
 refine List.map_congr_left fun y hy => ?_
 have := hb y hy
 show ((UInt8.ofNat y.toNat).toNat : Int) = y
 rw [UInt8.toNat_ofNat']
 omega
theorem sb_inj {a b : ByteArray} (h : sb a = sb b) : a = b := by
 have h2 : a.data.toList = b.data.toList := by
  unfold sb at h
  refine (List.map_inj_right (f := fun b : UInt8 => ((b.toNat : Nat) : Int)) ?_).1 h
  intro p q hpq
  exact UInt8.toNat_inj.1 (Int.ofNat.inj hpq)
 exact ByteArray.ext (Array.toList_inj.1 h2)
theorem str_eq (ys : List Int) (s : ByteArray) (hb : ∀ y ∈ ys, 0 ≤ y ∧ y < 256) : ((strOfNums ys).toList == s.toList) = decide (ys = sb s) := by
 rw [Bool.eq_iff_iff, beq_iff_eq, decide_eq_true_iff, ByteArray.toList_eq, ByteArray.toList_eq]
 constructor
 ·intro h
  rw [← ByteArray.ext (Array.toList_inj.1 h), str_sb ys hb]
 ·intro h
  have : strOfNums ys = s := sb_inj (by rw [str_sb ys hb, h])
  rw [this]
theorem seg_bytes (hT : Txt L) (a b : Int) : ∀ y ∈ seg L a b, 0 ≤ y ∧ y < 256 := by
 intro y hy
 unfold seg at hy
 obtain ⟨k, hk, rfl⟩ := List.getElem_of_mem (List.mem_of_mem_take (List.mem_of_mem_drop hy))
 have := hT.bytes (k : Int) (by omega) (by omega)
 obtain ⟨_, e⟩ := rd_get L (k : Int) (by omega) (by omega)
 rw [e] at this
 simpa using this
set_option maxRecDepth 100000 in
set_option maxHeartbeats 8000000 in
theorem formatLiteral (hC : Ctx N w v ad c L ip ind) (ho : Own N w v xs) (hr : Room xs L x) (h0 : 0 ≤ x) (h1 : x < L.length) (s : ByteArray) (hs : Lit_ (sb s)) (hs8 : s.size ≤ 8) :
  Calls Tryd.prog 81 #[v, .slice (some ad) L.length c, .int .i64 x, .string s] w (FmtAns N w v xs (flit L x (sb s))) := by
 have hsm := hC.txt.small
 have HT := Aside0.mk hC.txt
 have hl := sb_len s
 have hl2 := hs.len
 have HO := Aside0.mk ho
 have HR : Aside0 ((xs.length : Int) ≤ 60000000000000) := ⟨by unfold Room at hr; omega⟩
 have e1 : wrap64 (x + (s.size : Int)) = x + s.size := by unfold wrap64; omega
 have e2 : wrap64 ((L.length : Int) - 1) = (L.length : Int) - 1 := by unfold wrap64; omega
 have hcap := hC.buf.cap
 have HC := Aside0.mk hC
 clear hC ho hr
 by_cases hb : x + s.size > (L.length : Int) - 1
 ·have b1 : decide ((L.length : Int) - 1 < x + s.size) = true := decide_eq_true hb
  have HRES : Aside0 (flit L x (sb s) = none) := ⟨by
   cases h : flit L x (sb s) with
   | none => rfl
   | some p =>
    exfalso
    have hg := flit_gt (e := p.1) (T := p.2) HT.out h0 h1 (by omega) hs.pos h
    unfold flit at h
    split at h
    ·cases h
     have := hg.2
     simp only at this
     omega
    ·cases h⟩
  clear hb hs hl2
  go_enter Tryd.func81, Tryd.ntmps81
  go_wp2_with fail
  refine bodyPost_ret (v := .tuple #[v, .int .i64 0, .bool false]) ?_ rfl ?_
  ·simp [results, Tryd.results81, go_sem]
  rw [HRES.out]
  exact ⟨v, v, rfl, Grew.refl _ _⟩
 ·have b1 : decide ((L.length : Int) - 1 < x + s.size) = false := decide_eq_false hb
  have b2 : (x ≤ x + (s.size : Int)) = True := eq_true (by omega)
  have b3 : (x + (s.size : Int) ≤ (c : Int)) = True := eq_true (by omega)
  have b4 : x.toNat < c := by omega
  have hR := ReadsOf.drop_ (c := c) (ReadsOf.take_ (Kd.reads_of_C (enc := Value.int .u8) (d := (0 : Int)) (h1 := fun _ => rfl) HC.out.buf.C) (x + s.size).toNat (by omega)) x.toNat (by omega) (by omega)
  rw [if_neg (by omega)] at hR
  have hcv := Kd.C_string (P := Tryd.prog) (A := some (ad.add x.toNat)) (c := c - x.toNat) Tryd.underlying22 Tryd.underlying5 Tryd.underlying9 (Kd.C_of_reads (h1 := fun _ => rfl) hR)
  have hst := str_eq (seg L x (x + s.size)) s (seg_bytes HT.out _ _)
  have hsg : (L.take (x + (s.size : Int)).toNat).drop x.toNat = seg L x (x + s.size) := rfl
  rw [hsg] at hcv
  by_cases hq : seg L x (x + s.size) = sb s
  ·rw [decide_eq_true hq] at hst
   have HRES : Aside0 (flit L x (sb s) = some (x + s.size, sb s)) := ⟨by unfold flit; rw [hl, if_pos hq]⟩
   have HL := Aside0.mk (And.intro hl hs8)
   clear hq hsg hR hb hs hl2 hl
   generalize seg L x (x + s.size) = S at hst hcv
   go_enter Tryd.func81, Tryd.ntmps81
   go_wp2_with (first | ((with_reducible refine gate_builtin (b := .append) (xs := #[.tmp 31, .tmp 32]) rfl ?_); at_builtin; refine wpList_app rfl (.tmp 31) (.tmp 32) 9 rfl v _ xs (sb s) rfl rfl HO.out (src_str s) ?aB ?aN ?_; (case aB => have := HR.out; have := HL.out; omega); (case aN => exact HC.out.size); intro v1 w1 ho1 hg1; have HO1 := Aside0.mk ho1; have HG1 := Aside0.mk hg1; clear ho1 hg1))
   refine bodyPost_ret (v := .tuple #[v1, .int .i64 (x + s.size), .bool true]) ?_ rfl ?_
   ·simp [results, Tryd.results81, go_sem]
   rw [HRES.out]
   exact ⟨v1, rfl, HO1.out, HG1.out⟩
  ·rw [decide_eq_false hq] at hst
   have HRES : Aside0 (flit L x (sb s) = none) := ⟨by unfold flit; rw [hl, if_neg hq]⟩
   clear hq hsg hR hb hs hl2
   generalize seg L x (x + s.size) = S at hst hcv
   go_enter Tryd.func81, Tryd.ntmps81
   go_wp2_with fail
   refine bodyPost_ret (v := .tuple #[v, .int .i64 0, .bool false]) ?_ rfl ?_
   ·simp [results, Tryd.results81, go_sem]
   rw [HRES.out]
   exact ⟨v, v, rfl, Grew.refl _ _⟩
/-- A new line and its indents. -/
theorem nl_some (p i : List Int) (d : Nat) : nl (some (p, i)) (d + 1) = nl (some (p, i)) d ++ i := by
 show 10 :: (p ++ (List.replicate (d + 1) i).flatten) = 10 :: (p ++ (List.replicate d i).flatten) ++ i
 rw [List.replicate_succ', List.flatten_append]
 simp
theorem nl_len (p i : List Int) (d : Nat) : (nl (some (p, i)) d).length = 1 + p.length + d * i.length := by
 unfold nl
 rw [List.length_cons, List.length_append, List.length_flatten]
 simp
 omega
set_option maxRecDepth 100000 in
set_option maxHeartbeats 8000000 in
theorem appendNewline (hC : Ctx N w v ad c L ip ind) (ho : Own N w v xs) (hr : (xs.length : Int) ≤ 60100000000000) (hi : ind ≠ none) (d : Nat) (hd : d ≤ 10001) :
  Calls Tryd.prog 84 #[ip, v, .int .i64 d] w fun e w' => ∃ v', e = .returned v' ∧ Own N w' v' (xs ++ nl ind d) ∧ Grew w v w' v' := by
 obtain ⟨_, h2⟩ | ⟨g, p, i, rfl, rfl, hb, hne, hp8, hi8⟩ := hC.fmt
 ·exact absurd h2 hi
 have HC := Aside0.mk hC
 have HO := Aside0.mk ho
 have hx0 : w.cell? ⟨g, 0, none⟩ = some (.string p) := by rw [cell_of_row w g 0 _ _ _ hb]; rfl
 have HCELL : Aside0 (∀ v' w' j, j < 2 → Grew w v w' v' → w'.cell? ⟨g, j, none⟩ = some (if j = 0 then .string p else .string i)) := ⟨fun v' w' j hj hg => by
  rw [cell_of_row w' g j _ _ _ (by rw [hg.1.block g (blk_lt' hb) (fun e => hne e.symm)]; exact hb)]
  match j, hj with
  | 0, _ => rfl
  | 1, _ => rfl⟩
 have hx0a : (w.alloc (.cells #[.int .u8 10] 5)).cell? ⟨g, 0, none⟩ = some (.string p) := by have := HCELL.out v _ 0 (by omega) ((Grew.refl w v).alloc (.cells #[.int .u8 10] 5)); rw [if_pos rfl] at this; exact this
 clear hC ho hi
 go_enter Tryd.func84, Tryd.ntmps84
 go_wp2_with fail
 go_region_law (first | ((apply step_app (v := v) (x := .slice (some ⟨w.heap.size, 0, none⟩) 1 1) (xs := xs) (ys := [10]) (N := N)); (case hg => rfl); (case ho => rfl); (case hs => rfl); (case hx => rfl); (case hown => first | exact HO.out.move (below_alloc (Below.refl _ _) _).drew | exact HO.out.move (below_alloc (Below.refl _ _).drew _)); (case hsrc => (refine src_new (b := w.heap.size) ?_ rfl; exact ⟨_, blk_new w _, rfl⟩)); (case hb => (simp; omega)); (case hN => (have := HC.out.size; simp; omega)); (intro v1 w1 ho1 hg1; have HO1 := Aside0.mk ho1; have HG1 := Aside0.mk (((Grew.refl w v).alloc _).drew.trans hg1); have hy0 := HCELL.out _ _ 0 (by omega) HG1.out; rw [if_pos rfl] at hy0; clear ho1 hg1)) | ((apply step_app (v := v1) (x := .string p) (xs := xs ++ [10]) (ys := sb p) (tx := 9) (N := N)); (case hg => rfl); (case ho => rfl); (case hs => rfl); (case hx => rfl); (case hown => exact HO1.out); (case hsrc => exact src_str p); (case hb => (rw [sb_len]; simp; omega)); (case hN => (have := HC.out.size; have := HG1.out.size; simp; omega)); (intro v2 w2 ho2 hg2; have HO2 := Aside0.mk ho2; have HG2 := Aside0.mk (HG1.out.trans hg2); clear ho2 hg2)))
 all_goals
  go_wp2_with fail
  go_loopg [1, 7] (d + 1) (fun kq u1 u7 w' => ∃ k : Nat, u7 = .int .i64 k ∧ Aside0 (k ≤ d ∧ d + 1 ≤ k + kq) ∧ Aside0 (Own N w' u1 (xs ++ nl (some (sb p, sb i)) k)) ∧ Aside0 (Grew w v w' u1))
  case atStart => exact ⟨0, rfl, ⟨by omega, by omega⟩, ⟨by have := HO2.out; simpa [nl] using this⟩, HG2⟩
  case round =>
   obtain ⟨k, rfl, HK, HOW, HG⟩ := hrel
   obtain ⟨k1, k2⟩ := HK.out
   obtain _ | g0 := gk
   ·exfalso; omega
   have hc1 := HCELL.out _ _ 1 (by omega) HG.out
   rw [if_neg (by omega)] at hc1
   have ek : wrap64 ((k : Int) + 1) = ((k + 1 : Nat) : Int) := by unfold wrap64; omega
   by_cases hkd : k < d
   ·have b1 : decide ((k : Int) < (d : Int)) = true := decide_eq_true (by omega)
    have HN : Aside0 ((xs ++ nl (some (sb p, sb i)) k).length + (sb i).length ≤ 70368744177664) := ⟨by
     rw [List.length_append, nl_len, sb_len, sb_len]
     have : k * i.size ≤ 10001 * 8 := Nat.mul_le_mul (by omega) hi8
     omega⟩
    clear hr HK
    go_wp2_with (first | ((with_reducible refine gate_builtin (b := .append) (xs := #[.tmp 21, .tmp 25]) rfl ?_); at_builtin; refine wpList_app rfl (.tmp 21) (.tmp 25) 9 rfl u1 _ (xs ++ nl (some (sb p, sb i)) k) (sb i) rfl rfl HOW.out (src_str i) HN.out ?aN ?_; (case aN => have := HC.out.size; have := HG.out.size; omega); intro v3 w3 ho3 hg3; have HO3 := Aside0.mk ho3; have HG3 := Aside0.mk hg3; clear ho3 hg3))
    go_roundg g0
    case measure => omega
    case rel => exact ⟨k + 1, by first | rfl | rw [ek], ⟨by omega, by omega⟩, ⟨by have := HO3.out; rw [nl_some, ← List.append_assoc]; exact this⟩, ⟨HG.out.trans HG3.out⟩⟩
   ·have b1 : decide ((k : Int) < (d : Int)) = false := decide_eq_false (by omega)
    have hkk : k = d := by omega
    subst hkk
    clear hr HK
    go_wp2_with fail
    go_ret
    exact ⟨u1, rfl, HOW.out, HG.out⟩
end
end Go.Proofs.YtbikiibpjdiaaaaDoor.Err
/- How much the pass writes. -/
namespace Go.Proofs.YtbikiibpjdiaaaaDoor.Err
open Go.RowKit Go.Proofs.YtbikiibpjdiaaaaDoorW.PrintWords Go.Proofs.YtbikiibpjdiaaaaDoorW.PrintLast Go.Proofs.YtbikiibpjdiaaaaDoorW.PrintMore
open Go.Proofs.YtbikiibpjdiaaaaDoor.Dig
set_option linter.unusedVariables false
def IndOk (ind : Ind) : Prop := ∀ p i, ind = some (p, i) → p.length ≤ 8 ∧ i.length ≤ 8
section
variable {L : List Int} {x y : Int} {esc : Bool} {ind : Ind}
theorem nl_le (h : IndOk ind) (d : Nat) (hd : d ≤ 10000) : (nl ind d).length ≤ 90000 := by
 cases ind with
 | none => simp [nl]
 | some q =>
  obtain ⟨p, i⟩ := q
  obtain ⟨h1, h2⟩ := h p i rfl
  rw [nl_len]
  have : d * i.length ≤ 10000 * 8 := Nat.mul_le_mul hd h2
  omega
theorem cb_le : (cb ind).length ≤ 1 := by cases ind <;> simp [cb]
theorem fs_len (hT : Txt L) : ∀ (n : Nat) (x e : Int) (T : List Int), 0 ≤ x → x < L.length → fs L esc n x = some (e, T) → (T.length : Int) ≤ 6 * (e - x) := by
 intro n
 induction n with
 | zero => intro x e T h0 h1 h; cases h
 | succ n ih =>
  intro x e T h0 h1 h
  unfold fs at h
  split at h
  ·cases h
   simp
   omega
  split at h
  ·rename_i hc
   have hin := hT.inside h0 h1 (by omega)
   split at h
   ·cases h
   ·rename_i d hd
    have hg := escF_gt hT (by omega) (by omega) hd
    obtain ⟨⟨e1, T1⟩, hr, he⟩ := Option.map_eq_some_iff.1 h
    simp only [Prod.mk.injEq] at he
    obtain ⟨rfl, rfl⟩ := he
    have := ih d e1 T1 (by omega) hg.2 hr
    have hgt := fs_gt hT n d e1 T1 (by omega) hg.2 hr
    rw [List.length_append, seg_len x d h0 (by omega) (by omega)]
    omega
  split at h
  ·cases h
  ·rename_i c1 c2 c3
   have hin := hT.inside h0 h1 (by omega)
   split at h
   ·obtain ⟨⟨e1, T1⟩, hr, he⟩ := Option.map_eq_some_iff.1 h
    simp only [Prod.mk.injEq] at he
    obtain ⟨rfl, rfl⟩ := he
    have := ih (x + 1) e1 T1 (by omega) (by omega) hr
    rw [List.length_append]
    have : (escS (rd L x)).length = 6 := rfl
    omega
   split at h
   ·rename_i hl
    obtain ⟨⟨e1, T1⟩, hr, he⟩ := Option.map_eq_some_iff.1 h
    simp only [Prod.mk.injEq] at he
    obtain ⟨rfl, rfl⟩ := he
    have := ih (x + 3) e1 T1 (by omega) (by have := hl.2.2.1; omega) hr
    rw [List.length_append]
    have : (escU (rd L (x + 2))).length = 6 := rfl
    omega
   ·obtain ⟨⟨e1, T1⟩, hr, he⟩ := Option.map_eq_some_iff.1 h
    simp only [Prod.mk.injEq] at he
    obtain ⟨rfl, rfl⟩ := he
    have := ih (x + 1) e1 T1 (by omega) (by omega) hr
    rw [List.length_cons]
    omega
theorem fstr_len {e : Int} {T : List Int} (hT : Txt L) (h0 : 0 ≤ x) (h1 : x + 1 < L.length) (h : fstr L esc x = some (e, T)) : (T.length : Int) ≤ 6 * (e - x) := by
 unfold fstr at h
 obtain ⟨⟨e1, T1⟩, hr, he⟩ := Option.map_eq_some_iff.1 h
 simp only [Prod.mk.injEq] at he
 obtain ⟨rfl, rfl⟩ := he
 have := fs_len hT _ _ _ _ (by omega) h1 hr
 rw [List.length_cons]
 omega
theorem flit_len {l T : List Int} {e : Int} (h : flit L x l = some (e, T)) : (T.length : Int) = e - x := by
 unfold flit at h
 split at h
 ·cases h
  omega
 ·cases h
theorem fv_len (hT : Txt L) (hi : IndOk ind) : ∀ (n : Nat) (md : Md) (x : Int) (d : Nat) (e : Int) (T : List Int), 0 ≤ x → x < L.length → d ≤ 10000 → fv L esc ind n md x d = some (e, T) → (T.length : Int) ≤ 200000 * (e - x) := by
 intro n
 induction n with
 | zero => intro md x d e T h0 h1 hd h; cases h
 | succ n ih =>
  intro md x d e T h0 h1 hd h
  have hok := fv_ok (q := fun s => s) hT (n + 1) md x d e T h0 h1 h
  cases md with
  | val =>
   unfold fv at h
   split at h
   ·rename_i hc
    have hin := hT.inside h0 h1 (by omega)
    have hk := skp_ge hT (x := x + 1) (by omega) (by omega)
    split at h
    ·cases h
    rename_i hdp
    unfold deep at hdp
    split at h
    ·cases h
     simp
     omega
    ·obtain ⟨⟨e1, T1⟩, hr, he⟩ := Option.map_eq_some_iff.1 h
     simp only [Prod.mk.injEq] at he
     obtain ⟨rfl, rfl⟩ := he
     have h2 := ih .key _ _ _ _ (by omega) hk.2 (by omega) hr
     rw [List.length_cons]
     omega
   split at h
   ·rename_i hc
    have hin := hT.inside h0 h1 (by omega)
    have hk := skp_ge hT (x := x + 1) (by omega) (by omega)
    split at h
    ·cases h
    rename_i hdp
    unfold deep at hdp
    split at h
    ·cases h
     simp
     omega
    ·obtain ⟨⟨e1, T1⟩, hr, he⟩ := Option.map_eq_some_iff.1 h
     simp only [Prod.mk.injEq] at he
     obtain ⟨rfl, rfl⟩ := he
     have h2 := ih .item _ _ _ _ (by omega) hk.2 (by omega) hr
     rw [List.length_cons]
     omega
   split at h
   ·rename_i hc
    have hin := hT.inside h0 h1 (by omega)
    have := fstr_len hT h0 (by omega) h
    omega
   split at h
   ·have := flit_len h; omega
   split at h
   ·have := flit_len h; omega
   split at h
   ·have := flit_len h; omega
   split at h
   ·rename_i hc
    have hn := fnum_ok (q := fun s => s) hT h0 h1 hc h
    rw [hn.2.2.1, seg_len x e h0 (by omega) (by omega)]
    omega
   ·cases h
  | key =>
   unfold fv at h
   split at h
   ·rename_i hc
    have hin := hT.inside h0 h1 (by omega)
    split at h
    ·cases h
    rename_i e1 T1 hs1
    have hs := fstr_ok (q := fun s => s) hT h0 (by omega) hs1
    have hsl := fstr_len hT h0 (by omega) hs1
    have hk := skp_ge hT (x := e1) (by omega) hs.2.1
    split at h
    ·rename_i hc2
     have hin2 := hT.inside (x := skp L e1) (by omega) hk.2 (by omega)
     have hk2 := skp_ge hT (x := skp L e1 + 1) (by omega) (by omega)
     split at h
     ·cases h
     rename_i e2 T2 hv2
     have h2 := fv_ok (q := fun s => s) hT _ _ _ _ _ _ (by omega) hk2.2 hv2
     have h2l := ih .val _ _ _ _ (by omega) hk2.2 hd hv2
     have hk3 := skp_ge hT (x := e2) (by omega) h2.2.1
     have hn1 := nl_le hi d hd
     have hn2 := nl_le hi (d - 1) (by omega)
     have hcb := cb_le (ind := ind)
     split at h
     ·rename_i hc3
      obtain ⟨⟨e3, T3⟩, hr, he⟩ := Option.map_eq_some_iff.1 h
      simp only [Prod.mk.injEq] at he
      obtain ⟨rfl, rfl⟩ := he
      have hin3 := hT.inside (x := skp L e2) (by omega) hk3.2 (by omega)
      have hk4 := skp_ge hT (x := skp L e2 + 1) (by omega) (by omega)
      have h4 := ih .key _ _ _ _ (by omega) hk4.2 hd hr
      simp only [List.length_append, List.length_cons]
      omega
     split at h
     ·cases h
      simp only [List.length_append, List.length_cons, List.length_nil]
      omega
     ·cases h
    ·cases h
   ·cases h
  | item =>
   unfold fv at h
   split at h
   ·cases h
   rename_i e1 T1 hv1
   have h2 := fv_ok (q := fun s => s) hT _ _ _ _ _ _ h0 h1 hv1
   have h2l := ih .val _ _ _ _ h0 h1 hd hv1
   have hk3 := skp_ge hT (x := e1) (by omega) h2.2.1
   have hn1 := nl_le hi d hd
   have hn2 := nl_le hi (d - 1) (by omega)
   split at h
   ·rename_i hc3
    obtain ⟨⟨e3, T3⟩, hr, he⟩ := Option.map_eq_some_iff.1 h
    simp only [Prod.mk.injEq] at he
    obtain ⟨rfl, rfl⟩ := he
    have hin3 := hT.inside (x := skp L e1) (by omega) hk3.2 (by omega)
    have hk4 := skp_ge hT (x := skp L e1 + 1) (by omega) (by omega)
    have h4 := ih .item _ _ _ _ (by omega) hk4.2 hd hr
    simp only [List.length_append, List.length_cons]
    omega
   split at h
   ·cases h
    simp only [List.length_append, List.length_cons, List.length_nil]
    omega
   ·cases h
end
end Go.Proofs.YtbikiibpjdiaaaaDoor.Err
