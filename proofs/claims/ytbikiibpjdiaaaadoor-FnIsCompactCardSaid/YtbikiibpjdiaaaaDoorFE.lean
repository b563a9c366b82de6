/- formatArray: an array is taken and written as the plain function says, where values are. -/
import Derived.Test.YtbikiibpjdiaaaaDoorFD
import Derived.Test.YtbikiibpjdiaaaaDoorFC
namespace Go.Proofs.YtbikiibpjdiaaaaDoor.Err
open Go.RowKit Go.Proofs.YtbikiibpjdiaaaaDoorW.PrintWords Go.Proofs.YtbikiibpjdiaaaaDoorW.PrintLast Go.Proofs.YtbikiibpjdiaaaaDoorW.PrintMore
open Go.Proofs.YtbikiibpjdiaaaaDoor.Dig Go.Proofs.YtbikiibpjdiaaaaDoor.Tab Go.Proofs.YtbikiibpjdiaaaaDoor.QF
set_option linter.unusedVariables false
section
variable {N : Nat} {w w' : World} {v u : Value} {ad : Addr} {c : Nat} {L xs E T : List Int} {ip : Value} {ind : Ind} {esc : Bool} {x y e : Int} {n m d : Nat}
/-- What formatValue does, with so much fuel. -/
abbrev ValC (N : Nat) (ad : Addr) (c : Nat) (L : List Int) (esc : Bool) (ip : Value) (ind : Ind) (n : Nat) : Prop :=
 ∀ (w : World) (v : Value) (xs : List Int) (x : Int) (d : Nat), Ctx N w v ad c L ip ind → Own N w v xs → Room xs L x → 0 ≤ x → x < L.length → d ≤ 10000 → 2 * ((L.length : Int) - x) + 1 ≤ n →
  Calls Tryd.prog 73 #[v, .slice (some ad) L.length c, .int .i64 x, .bool esc, ip, .int .i64 d] w (FmtAns N w v xs (fv L esc ind n .val x d))
theorem Ctx.ok (h : Ctx N w v ad c L ip ind) : IndOk ind := by
 intro p i hpi
 rcases h.fmt with ⟨_, h2⟩ | ⟨g, p', i', h1, h2, _, _, h5, h6⟩
 ·rw [h2] at hpi; cases hpi
 ·rw [h2] at hpi; cases hpi
  rw [sb_len, sb_len]
  exact ⟨h5, h6⟩
/-- The walk in an array, at a value. -/
def ItemAt (L : List Int) (esc : Bool) (ind : Ind) (n : Nat) (x : Int) (d m : Nat) (y : Int) (E : List Int) : Prop :=
 fv L esc ind (n + 1) .val x d = (fv L esc ind m .item y (d + 1)).map fun r => (r.1, E ++ r.2)
theorem ia_deep (hc : rd L x = 91) (hd : 10000 < d + 1) : fv L esc ind (n + 1) .val x d = none := by
 unfold fv
 rw [if_neg (by omega), if_pos hc, if_pos (by unfold deep; exact hd)]
theorem ia_empty (hc : rd L x = 91) (hd : d + 1 ≤ 10000) (h : rd L (skp L (x + 1)) = 93) : fv L esc ind (n + 1) .val x d = some (skp L (x + 1) + 1, [91, 93]) := by
 unfold fv
 rw [if_neg (by omega), if_pos hc, if_neg (by unfold deep; omega), if_pos h]
theorem ia_start (hc : rd L x = 91) (hd : d + 1 ≤ 10000) (h : rd L (skp L (x + 1)) ≠ 93) : ItemAt L esc ind n x d n (skp L (x + 1)) [91] := by
 unfold ItemAt
 conv => lhs; unfold fv
 rw [if_neg (by omega), if_pos hc, if_neg (by unfold deep; omega), if_neg h]
 rfl
theorem fv_item (L : List Int) (esc : Bool) (ind : Ind) (m : Nat) (y : Int) (d : Nat) : fv L esc ind (m + 1) .item y d = match fv L esc ind m .val y d with
  | none => none
  | some (e, T) =>
   if rd L (skp L e) = 44 then (fv L esc ind m .item (skp L (skp L e + 1)) d).map fun r => (r.1, nl ind d ++ T ++ 44 :: r.2)
   else if rd L (skp L e) = 93 then some (skp L e + 1, nl ind d ++ T ++ nl ind (d - 1) ++ [93])
   else none := rfl
theorem ia_none (h : ItemAt L esc ind n x d (m + 1) y E) (hv : fv L esc ind m .val y (d + 1) = none) : fv L esc ind (n + 1) .val x d = none := by
 unfold ItemAt at h
 rw [h, fv_item, hv]
 rfl
theorem ia_next (h : ItemAt L esc ind n x d (m + 1) y E) (hv : fv L esc ind m .val y (d + 1) = some (e, T)) (hc : rd L (skp L e) = 44) : ItemAt L esc ind n x d m (skp L (skp L e + 1)) (E ++ nl ind (d + 1) ++ T ++ [44]) := by
 unfold ItemAt at h ⊢
 rw [h, fv_item, hv]
 simp only [if_pos hc]
 cases fv L esc ind m .item (skp L (skp L e + 1)) (d + 1) <;> simp
theorem ia_end (h : ItemAt L esc ind n x d (m + 1) y E) (hv : fv L esc ind m .val y (d + 1) = some (e, T)) (hc : rd L (skp L e) = 93) : fv L esc ind (n + 1) .val x d = some (skp L e + 1, E ++ nl ind (d + 1) ++ T ++ nl ind d ++ [93]) := by
 unfold ItemAt at h
 rw [h, fv_item, hv]
 simp only [if_neg (show ¬ rd L (skp L e) = 44 by omega), if_pos hc]
 simp
theorem ia_bad (h : ItemAt L esc ind n x d (m + 1) y E) (hv : fv L esc ind m .val y (d + 1) = some (e, T)) (h1 : rd L (skp L e) ≠ 44) (h2 : rd L (skp L e) ≠ 93) : fv L esc ind (n + 1) .val x d = none := by
 unfold ItemAt at h
 rw [h, fv_item, hv]
 simp only [if_neg h1, if_neg h2]
 rfl
/-- There is room in the row behind what is written of an array's or an object's head. -/
def RoomI (xs L : List Int) (x : Int) : Prop := (xs.length : Int) + 200000 * ((L.length : Int) - x) + 100000 ≤ 60000000000000
set_option maxRecDepth 100000 in
set_option maxHeartbeats 16000000 in
theorem formatArray (ih : ∀ k, k ≤ n → ValC N ad c L esc ip ind k) (hC : Ctx N w v ad c L ip ind) (ho : Own N w v xs) (hr : Room xs L x) (h0 : 0 ≤ x) (h1 : x < L.length) (hd : d ≤ 10000) (hn : 2 * ((L.length : Int) - x) ≤ n) (hc : rd L x = 91) :
  Calls Tryd.prog 79 #[v, .slice (some ad) L.length c, .int .i64 x, .bool esc, ip, .int .i64 d] w (FmtAns N w v xs (fv L esc ind (n + 1) .val x d)) := by
 have IH := Aside0.mk ih
 have HC := Aside0.mk hC
 have HO := Aside0.mk ho
 have HT := Aside0.mk hC.txt
 have HOK := Aside0.mk hC.ok
 have hsm := hC.txt.small
 have hin := hC.txt.inside h0 h1 (by omega)
 have HR := Aside0.mk hr
 obtain ⟨D, hD⟩ : ∃ D : Int, D = (d : Int) := ⟨_, rfl⟩
 obtain ⟨D1, hD1⟩ : ∃ D1 : Int, D1 = ((d + 1 : Nat) : Int) := ⟨_, rfl⟩
 have ed : wrap64 (D + 1) = D1 := by unfold wrap64; omega
 have eD : wrap64 (D1 - 1) = D := by unfold wrap64; omega
 have ex : wrap64 (x + 1) = x + 1 := by unfold wrap64; omega
 rw [← hD]
 have HD := Aside0.mk hD
 have HD1 := Aside0.mk hD1
 clear ih hC ho hr
 by_cases hdp : 10000 < d + 1
 ·have b1 : decide ((10000 : Int) < D1) = true := decide_eq_true (by omega)
  have HRES := Aside0.mk (ia_deep (esc := esc) (ind := ind) (n := n) hc hdp)
  clear hd hdp hn hc hD hD1
  go_enter Tryd.func79, Tryd.ntmps79
  go_wp2_with fail
  refine bodyPost_ret (v := .tuple #[v, .int .i64 0, .bool false]) ?_ rfl ?_
  ·simp [results, Tryd.results79, go_sem]
  rw [HRES.out]
  exact ⟨v, v, rfl, Grew.refl _ _⟩
 have b1 : decide ((10000 : Int) < D1) = false := decide_eq_false (by omega)
 have hk := skp_ge HT.out (x := x + 1) (by omega) (by omega)
 obtain ⟨z, hz⟩ : ∃ z, z = skp L (x + 1) := ⟨_, rfl⟩
 have HSK : Aside0 (∀ W, Buf W ad c L → Calls Tryd.prog 74 #[.slice (some ad) L.length c, .int .i64 (x + 1)] W fun e w' => e = .returned (.int .i64 z) ∧ Drawn0 W w') := ⟨fun W hB => by rw [hz]; exact skipSp hB (x + 1) (by omega) (by omega)⟩
 have HB : Aside0 (∀ u W, Grew w v W u → Buf W ad c L) := ⟨fun u W hg => (HC.out.grew HO.out hg).buf⟩
 have hz0 : 0 ≤ z := by omega
 have hz1 : z < L.length := by omega
 have ez : wrap64 (z + 1) = z + 1 := by unfold wrap64; omega
 by_cases he : rd L z = 93
 ·have HRES := Aside0.mk (ia_empty (esc := esc) (ind := ind) (n := n) (d := d) hc (by omega) (by rw [← hz]; exact he))
  rw [← hz] at HRES
  clear hd hdp hn hc hk hz hD hD1 hin
  go_enter Tryd.func79, Tryd.ntmps79
  go_wp2_with (first | ((with_reducible refine gate_builtin (b := .append) (xs := #[.tmp 21, .tmp 22]) rfl ?_); at_builtin; refine wpList_app rfl (.tmp 21) (.tmp 22) 22 rfl v _ (xs) [91] rfl rfl (HO.out.move (below_alloc (Below.refl _ _) _)) ?aS ?aB ?aN ?_; (case aS => (refine src_new (b := (w).heap.size) ?_ rfl; exact ⟨_, blk_new (w) _, rfl⟩)); (case aB => have := HR.out; unfold Room at this; simp; omega); (case aN => have := HC.out.size; simp; omega); intro v1 w1 ho hg; have HO1 := Aside0.mk ho; have HG1 := Aside0.mk (((Grew.refl (w) v).alloc _).trans hg); clear ho hg))
  with_reducible refine (HSK.out _ (HB.out _ _ HG1.out)).mono ?_
  rintro e w2 ⟨rfl, ⟨m1, rfl⟩⟩
  have hx := (HB.out _ _ (HG1.out.drewN m1)).at_ z hz0 hz1
  rw [he] at hx
  go_wp2_with (first | ((with_reducible refine gate_builtin (b := .append) (xs := #[.tmp 33, .tmp 34]) rfl ?_); at_builtin; refine wpList_app rfl (.tmp 33) (.tmp 34) 22 rfl v1 _ (xs ++ [91]) [93] rfl rfl (HO1.out.move (below_alloc (pw_below_drewN (Below.refl _ _) m1) _)) ?aS ?aB ?aN ?_; (case aS => (refine src_new (b := (w1.drewN m1).heap.size) ?_ rfl; exact ⟨_, blk_new (w1.drewN m1) _, rfl⟩)); (case aB => have := HR.out; unfold Room at this; simp; omega); (case aN => have := HC.out.size; have := HG1.out.size; simp; omega); intro v2 w3 ho hg; have HO2 := Aside0.mk ho; have HG2 := Aside0.mk (((Grew.refl (w1.drewN m1) v1).alloc _).trans hg); clear ho hg))
  refine bodyPost_ret (v := .tuple #[v2, .int .i64 (z + 1), .bool true]) ?_ rfl ?_
  ·simp [results, Tryd.results79, go_sem]
  rw [HRES.out]
  exact ⟨v2, rfl, by have := HO2.out; simpa only [List.append_assoc, List.cons_append, List.nil_append] using this, HG1.out.trans ((Grew.refl w1 v1).drewN m1 |>.trans HG2.out)⟩
 have HIS := Aside0.mk (ia_start (esc := esc) (ind := ind) (n := n) (d := d) hc (by omega) (by rw [← hz]; exact he))
 rw [← hz] at HIS
 have f93 : (rd L z == 93) = false := beq_eq_false_iff_ne.mpr he
 have HVAL : Aside0 (∀ W u ys y m, Own N W u ys → Grew w v W u → Room ys L y → 0 ≤ y → y < L.length → m ≤ n → 2 * ((L.length : Int) - y) + 1 ≤ m → Calls Tryd.prog 73 #[u, .slice (some ad) L.length c, .int .i64 y, .bool esc, ip, .int .i64 D1] W (FmtAns N W u ys (fv L esc ind m .val y (d + 1)))) :=
  ⟨fun W u ys y m h2 h3 h4 h5 h6 h7 h8 => by rw [HD1.out]; exact IH.out m h7 W u ys y (d + 1) (HC.out.grew HO.out h3) h2 h4 h5 h6 (by omega) h8⟩
 have HNL1 : Aside0 (ind ≠ none → ∀ W u ys, Own N W u ys → Grew w v W u → (ys.length : Int) ≤ 60100000000000 → Calls Tryd.prog 84 #[ip, u, .int .i64 D1] W fun e w' => ∃ v', e = .returned v' ∧ Own N w' v' (ys ++ nl ind (d + 1)) ∧ Grew W u w' v') :=
  ⟨fun h W u ys h2 h3 h4 => by rw [HD1.out]; exact appendNewline (HC.out.grew HO.out h3) h2 h4 h (d + 1) (by omega)⟩
 have HNL0 : Aside0 (ind ≠ none → ∀ W u ys, Own N W u ys → Grew w v W u → (ys.length : Int) ≤ 60100000000000 → Calls Tryd.prog 84 #[ip, u, .int .i64 D] W fun e w' => ∃ v', e = .returned v' ∧ Own N w' v' (ys ++ nl ind d) ∧ Grew W u w' v') :=
  ⟨fun h W u ys h2 h3 h4 => by rw [HD.out]; exact appendNewline (HC.out.grew HO.out h3) h2 h4 h d (by omega)⟩
 have HN1 : Aside0 ((nl ind (d + 1)).length ≤ 90000) := ⟨nl_le HOK.out (d + 1) (by omega)⟩
 have HN0 : Aside0 ((nl ind d).length ≤ 90000) := ⟨nl_le HOK.out d (by omega)⟩
 have HBN : Aside0 (2 * ((L.length : Int) - z) + 2 ≤ n ∧ RoomI (xs ++ [91]) L z ∧ x + 1 ≤ z) := ⟨by omega, by have := HR.out; unfold Room at this; unfold RoomI; simp; omega, by have := hk.1; omega⟩
 have HSZ := Aside0.mk HC.out.size
 have hfm := HC.out.fmt
 have HDD : Aside0 (d + 1 ≤ 10000) := ⟨by omega⟩
 clear hn hc hk hz hD hD1 hin he hdp hd
 obtain hfm | hfm : (ip = .pointer none ∧ ind = none) ∨ (∃ g, ip = .pointer (some ⟨g, 0, none⟩)) ∧ ind ≠ none := by
  rcases hfm with h | ⟨g, p, i, h1, h2, _⟩
  ·exact .inl h
  ·exact .inr ⟨⟨g, h1⟩, by rw [h2]; simp⟩
 all_goals first
  | (obtain ⟨hip, hin⟩ := hfm; have HIN : Aside0 (ind = none) := ⟨hin⟩; subst hip; clear hin)
  | (obtain ⟨⟨g, hip⟩, hin⟩ := hfm; have HIN : Aside0 (ind ≠ none) := ⟨hin⟩; subst hip; clear hin)
 all_goals
  go_enter Tryd.func79, Tryd.ntmps79
  go_wp2_with (first | ((with_reducible refine gate_builtin (b := .append) (xs := #[.tmp 21, .tmp 22]) rfl ?_); at_builtin; refine wpList_app rfl (.tmp 21) (.tmp 22) 22 rfl v _ (xs) [91] rfl rfl (HO.out.move (below_alloc (Below.refl _ _) _)) ?aS ?aB ?aN ?_; (case aS => (refine src_new (b := (w).heap.size) ?_ rfl; exact ⟨_, blk_new (w) _, rfl⟩)); (case aB => have := HR.out; unfold Room at this; simp; omega); (case aN => have := HSZ.out; simp; omega); intro v1 w1 ho hg; have HO1 := Aside0.mk ho; have HG1 := Aside0.mk (((Grew.refl (w) v).alloc _).trans hg); clear ho hg))
  with_reducible refine (HSK.out _ (HB.out _ _ HG1.out)).mono ?_
  rintro e w2 ⟨rfl, ⟨m1, rfl⟩⟩
  have hx := (HB.out _ _ (HG1.out.drewN m1)).at_ z hz0 hz1
  go_wp2_with fail
  go_loopg [0, 2] (L.length + 1) (fun kq v0 v2 w' => ∃ (y : Int) (m : Nat) (E : List Int), v2 = .int .i64 y ∧ Aside0 (x + 1 ≤ y ∧ y < L.length ∧ 2 * ((L.length : Int) - y) + 2 ≤ m ∧ m ≤ n ∧ (L.length : Int) + 1 ≤ y + kq) ∧ Aside0 (ItemAt L esc ind n x d m y E) ∧ Aside0 (RoomI (xs ++ E) L y) ∧ Aside0 (Own N w' v0 (xs ++ E)) ∧ Aside0 (Grew w v w' v0))
  case atStart => exact ⟨z, n, [91], rfl, ⟨HBN.out.2.2, hz1, HBN.out.1, Nat.le_refl _, by omega⟩, HIS, ⟨HBN.out.2.1⟩, ⟨HO1.out⟩, ⟨HG1.out.drewN m1⟩⟩
  case round =>
   obtain ⟨y, m, E, rfl, HY, HI, HRI, HOW, HG⟩ := hrel
   obtain ⟨y1, y2, y3, y4, y5⟩ := HY.out
   obtain _ | g0 := gk
   ·exfalso; omega
   obtain ⟨m', hm'⟩ : ∃ m', m = m' + 1 := ⟨m - 1, by omega⟩
   subst hm'
   have HRL : Aside0 (((xs ++ E).length : Int) ≤ 60100000000000 ∧ Room (xs ++ E ++ nl ind (d + 1)) L y) := ⟨by
    have h1 := HRI.out
    have h2 := HN1.out
    unfold RoomI at h1
    refine ⟨by omega, ?_⟩
    unfold Room
    rw [List.length_append]
    omega⟩
   have HYB := Aside0.mk (And.intro (show 0 ≤ y by omega) (And.intro (show m' ≤ n by omega) (show 2 * ((L.length : Int) - y) + 1 ≤ m' by omega)))
   clear y1 y2 y3 y4 y5
   go_wp2_with fail
   all_goals try
    with_reducible refine (HNL1.out HIN.out _ _ _ HOW.out HG.out HRL.out.1).mono ?_
    rintro e w3 ⟨v3, rfl, ho3, hg3⟩
    have HO3 := Aside0.mk ho3
    have HG3 := Aside0.mk (HG.out.trans hg3)
    clear ho3 hg3
    go_wp2_with fail
   with_reducible refine (HVAL.out _ _ (xs ++ E ++ nl ind (d + 1)) y m' (by first | exact HO3.out | (rw [HIN.out]; have := HOW.out; simpa [nl] using this)) (by first | exact HG3.out | exact HG.out) HRL.out.2 HYB.out.1 HY.out.2.1 HYB.out.2.1 HYB.out.2.2).mono ?_
   rintro e w4 hans
   cases hv : fv L esc ind m' .val y (d + 1) with
   | none =>
    rw [hv] at hans
    obtain ⟨v4, u4, rfl, hg4⟩ := hans
    have HRES := Aside0.mk (ia_none HI.out hv)
    have HG4 : Aside0 (Grew w v w4 u4) := ⟨by first | exact HG3.out.trans hg4 | exact HG.out.trans hg4⟩
    clear hg4 hv
    go_wp2_with fail
    refine bodyPost_ret (v := .tuple #[v4, .int .i64 0, .bool false]) ?_ rfl ?_
    ·simp [results, Tryd.results79, go_sem]
    rw [HRES.out]
    exact ⟨v4, u4, rfl, HG4.out⟩
   | some pr =>
    obtain ⟨e1, T⟩ := pr
    rw [hv] at hans
    obtain ⟨v4, rfl, ho4, hg4⟩ := hans
    have HO4 := Aside0.mk ho4
    have HG4 : Aside0 (Grew w v w4 v4) := ⟨by first | exact HG3.out.trans hg4 | exact HG.out.trans hg4⟩
    have hok := fv_ok (q := fun s => s) HT.out _ _ _ _ _ _ HYB.out.1 HY.out.2.1 hv
    have hle := fv_len HT.out HOK.out _ _ _ _ _ _ HYB.out.1 HY.out.2.1 HDD.out hv
    have hk1 := skp_ge HT.out (x := e1) (by have := HYB.out.1; omega) hok.2.1
    obtain ⟨z1, hz1e⟩ : ∃ z1, z1 = skp L e1 := ⟨_, rfl⟩
    rw [← hz1e] at hk1
    have HSK2 : Aside0 (∀ W, Buf W ad c L → Calls Tryd.prog 74 #[.slice (some ad) L.length c, .int .i64 e1] W fun e w' => e = .returned (.int .i64 z1) ∧ Drawn0 W w') := ⟨fun W hB => by rw [hz1e]; exact skipSp hB e1 (by have := HYB.out.1; omega) hok.2.1⟩
    have hz10 : 0 ≤ z1 := by have := HYB.out.1; omega
    have hz11 : z1 < L.length := hk1.2
    have ez1 : wrap64 (z1 + 1) = z1 + 1 := by unfold wrap64; omega
    have HL4 : Aside0 (((xs ++ E ++ nl ind (d + 1) ++ T).length : Int) + 200000 * ((L.length : Int) - e1) + 10000 ≤ 60000000000000 ∧ y < e1 ∧ e1 ≤ z1) := ⟨by
     have h1 := HRI.out
     have h2 := HN1.out
     unfold RoomI at h1
     refine ⟨?_, hok.1, hk1.1⟩
     rw [List.length_append, List.length_append]
     omega⟩
    have HV := Aside0.mk hv
    have HZ1 := Aside0.mk hz1e
    clear ho4 hg4 hok hle hk1 hv hz1e
    go_wp2_with fail
    with_reducible refine (HSK2.out _ (HB.out _ _ HG4.out)).mono ?_
    rintro e w5 ⟨rfl, ⟨m5, rfl⟩⟩
    have hx2 := (HB.out _ _ (HG4.out.drewN m5)).at_ z1 hz10 hz11
    by_cases c1 : rd L z1 = 44
    ·have HIS2 := Aside0.mk (ia_next HI.out HV.out (by rw [← HZ1.out]; exact c1))
     rw [← HZ1.out] at HIS2
     rw [c1] at hx2
     have hin5 := HT.out.inside hz10 hz11 (by omega)
     have hk2 := skp_ge HT.out (x := z1 + 1) (by omega) (by omega)
     obtain ⟨z2, hz2⟩ : ∃ z2, z2 = skp L (z1 + 1) := ⟨_, rfl⟩
     rw [← hz2] at hk2 HIS2
     have HSK3 : Aside0 (∀ W, Buf W ad c L → Calls Tryd.prog 74 #[.slice (some ad) L.length c, .int .i64 (z1 + 1)] W fun e w' => e = .returned (.int .i64 z2) ∧ Drawn0 W w') := ⟨fun W hB => by rw [hz2]; exact skipSp hB (z1 + 1) (by omega) (by omega)⟩
     have HK2 := Aside0.mk hk2
     clear c1 hin5 hk2 hz2
     go_wp2_with (first | ((with_reducible refine gate_builtin (b := .append) (xs := #[.tmp 68, .tmp 69]) rfl ?_); at_builtin; refine wpList_app rfl (.tmp 68) (.tmp 69) 22 rfl v4 _ (xs ++ E ++ nl ind (d + 1) ++ T) [44] rfl rfl (HO4.out.move (below_alloc (pw_below_drewN (Below.refl _ _) m5) _)) ?aS ?aB ?aN ?_; (case aS => (refine src_new (b := (w4.drewN m5).heap.size) ?_ rfl; exact ⟨_, blk_new (w4.drewN m5) _, rfl⟩)); (case aB => have := HL4.out; simp at this ⊢; omega); (case aN => have := HSZ.out; have := HG4.out.size; simp; omega); intro v6 w6 ho hg; have HO6 := Aside0.mk ho; have HG6 := Aside0.mk (((Grew.refl (w4.drewN m5) v4).alloc _).trans hg); clear ho hg))
     with_reducible refine (HSK3.out _ (HB.out _ _ ((HG4.out.drewN m5).trans HG6.out))).mono ?_
     rintro e w7 ⟨rfl, ⟨m7, rfl⟩⟩
     go_wp2_with fail
     go_roundg g0
     case measure => omega
     case rel => exact ⟨z2, m', E ++ nl ind (d + 1) ++ T ++ [44], rfl, ⟨by have := HK2.out; have := HY.out; have := HL4.out; omega, HK2.out.2, by have := HK2.out; have := HY.out; have := HL4.out; omega, HYB.out.2.1, by have := HK2.out; have := HY.out; have := HL4.out; omega⟩, HIS2, ⟨by have h1 := HL4.out; have h2 := HK2.out; unfold RoomI; simp only [List.length_append, List.length_cons, List.length_nil] at h1 ⊢; omega⟩, ⟨show Own N w6 v6 _ by have := HO6.out; simpa only [List.append_assoc] using this⟩, ⟨((HG4.out.drewN m5).trans HG6.out).drewN m7⟩⟩
    have f44 : (rd L z1 == 44) = false := beq_eq_false_iff_ne.mpr c1
    by_cases c2 : rd L z1 = 93
    ·have HRES := Aside0.mk (ia_end HI.out HV.out (by rw [← HZ1.out]; exact c2))
     rw [← HZ1.out] at HRES
     rw [c2] at hx2
     clear c1 c2 f44
     go_wp2_with (first | ((with_reducible refine gate_builtin (b := .append) (xs := #[.tmp 84, .tmp 85]) rfl ?_); at_builtin; refine wpList_app rfl (.tmp 84) (.tmp 85) 22 rfl v4 _ (xs ++ E ++ nl ind (d + 1) ++ T) [93] rfl rfl (HO4.out.move (below_alloc (pw_below_drewN (Below.refl _ _) m5) _)) ?aS ?aB ?aN ?_; (case aS => (refine src_new (b := (w4.drewN m5).heap.size) ?_ rfl; exact ⟨_, blk_new (w4.drewN m5) _, rfl⟩)); (case aB => have := HL4.out; simp at this ⊢; omega); (case aN => have := HSZ.out; have := HG4.out.size; simp; omega); intro v6 w6 ho hg; have HO6 := Aside0.mk ho; have HG6 := Aside0.mk (((Grew.refl (w4.drewN m5) v4).alloc _).trans hg); clear ho hg))
     all_goals try
      with_reducible refine (HNL0.out HIN.out _ _ _ (HO4.out.move (pw_below_drewN (Below.refl _ _) m5)) (HG4.out.drewN m5) (by have := HL4.out; omega)).mono ?_
      rintro e w5 ⟨v5, rfl, ho5, hg5⟩
      have HO5 := Aside0.mk ho5
      have HG5 := Aside0.mk ((HG4.out.drewN m5).trans hg5)
      clear ho5 hg5
      go_wp2_with (first | ((with_reducible refine gate_builtin (b := .append) (xs := #[.tmp 84, .tmp 85]) rfl ?_); at_builtin; refine wpList_app rfl (.tmp 84) (.tmp 85) 22 rfl v5 _ (xs ++ E ++ nl ind (d + 1) ++ T ++ nl ind d) [93] rfl rfl (HO5.out.move (below_alloc (Below.refl _ _) _)) ?aS ?aB ?aN ?_; (case aS => (refine src_new (b := (w5).heap.size) ?_ rfl; exact ⟨_, blk_new (w5) _, rfl⟩)); (case aB => have h1 := HL4.out; have h2 := HN0.out; simp only [List.length_append, List.length_cons, List.length_nil] at h1 h2 ⊢; omega); (case aN => have := HSZ.out; have := HG5.out.size; simp; omega); intro v6 w6 ho hg; have HO6 := Aside0.mk ho; have HG6 := Aside0.mk (((Grew.refl (w5) v5).alloc _).trans hg); clear ho hg))
     refine bodyPost_ret (v := .tuple #[v6, .int .i64 (z1 + 1), .bool true]) ?_ rfl ?_
     ·simp [results, Tryd.results79, go_sem]
     rw [HRES.out]
     exact ⟨v6, rfl, by first | (have := HO6.out; simpa only [List.append_assoc] using this) | (rw [HIN.out]; have := HO6.out; rw [HIN.out] at this; simpa [nl] using this), by first | exact HG5.out.trans HG6.out | exact (HG4.out.drewN m5).trans HG6.out⟩
    ·have HRES := Aside0.mk (ia_bad HI.out HV.out (by rw [← HZ1.out]; exact c1) (by rw [← HZ1.out]; exact c2))
     have f93' : (rd L z1 == 93) = false := beq_eq_false_iff_ne.mpr c2
     clear c1 c2
     go_wp2_with fail
     refine bodyPost_ret (v := .tuple #[v4, .int .i64 0, .bool false]) ?_ rfl ?_
     ·simp [results, Tryd.results79, go_sem]
     rw [HRES.out]
     exact ⟨v4, v4, rfl, HG4.out.drewN m5⟩
end
end Go.Proofs.YtbikiibpjdiaaaaDoor.Err
/- formatObject: an object is taken and written as the plain function says, where values are (printed by mk_obj.py). -/
namespace Go.Proofs.YtbikiibpjdiaaaaDoor.Err
open Go.RowKit Go.Proofs.YtbikiibpjdiaaaaDoorW.PrintWords Go.Proofs.YtbikiibpjdiaaaaDoorW.PrintLast Go.Proofs.YtbikiibpjdiaaaaDoorW.PrintMore
open Go.Proofs.YtbikiibpjdiaaaaDoor.Dig Go.Proofs.YtbikiibpjdiaaaaDoor.Tab Go.Proofs.YtbikiibpjdiaaaaDoor.QF
set_option linter.unusedVariables false
section
variable {N : Nat} {w w' : World} {v u : Value} {ad : Addr} {c : Nat} {L xs E T T2 : List Int} {ip : Value} {ind : Ind} {esc : Bool} {x y e e2 : Int} {n m d : Nat}
theorem formatString (hC : Ctx N w v ad c L ip ind) (ho : Own N w v xs) (hr : Room xs L x) (h0 : 0 ≤ x) (h1 : x < L.length) (hq : rd L x = 34) :
  Calls Tryd.prog 80 #[v, .slice (some ad) L.length c, .int .i64 x, .bool esc] w (FmtAns N w v xs (fstr L esc x)) := by
 cases esc
 ·exact formatString_plain hC ho hr h0 h1 hq
 ·exact formatString_esc hC ho hr h0 h1 hq
/-- The walk in an object, at a name. -/
def KeyAt (L : List Int) (esc : Bool) (ind : Ind) (n : Nat) (x : Int) (d m : Nat) (y : Int) (E : List Int) : Prop :=
 fv L esc ind (n + 1) .val x d = (fv L esc ind m .key y (d + 1)).map fun r => (r.1, E ++ r.2)
theorem ka_deep (hc : rd L x = 123) (hd : 10000 < d + 1) : fv L esc ind (n + 1) .val x d = none := by
 unfold fv
 rw [if_pos hc, if_pos (by unfold deep; exact hd)]
theorem ka_empty (hc : rd L x = 123) (hd : d + 1 ≤ 10000) (h : rd L (skp L (x + 1)) = 125) : fv L esc ind (n + 1) .val x d = some (skp L (x + 1) + 1, [123, 125]) := by
 unfold fv
 rw [if_pos hc, if_neg (by unfold deep; omega), if_pos h]
theorem ka_start (hc : rd L x = 123) (hd : d + 1 ≤ 10000) (h : rd L (skp L (x + 1)) ≠ 125) : KeyAt L esc ind n x d n (skp L (x + 1)) [123] := by
 unfold KeyAt
 conv => lhs; unfold fv
 rw [if_pos hc, if_neg (by unfold deep; omega), if_neg h]
 rfl
theorem fv_key (L : List Int) (esc : Bool) (ind : Ind) (m : Nat) (y : Int) (d : Nat) : fv L esc ind (m + 1) .key y d =
  if rd L y = 34 then match fstr L esc y with
   | none => none
   | some (e, T) => if rd L (skp L e) = 58 then match fv L esc ind m .val (skp L (skp L e + 1)) d with
    | none => none
    | some (e2, T2) =>
     if rd L (skp L e2) = 44 then (fv L esc ind m .key (skp L (skp L e2 + 1)) d).map fun r => (r.1, nl ind d ++ T ++ 58 :: (cb ind ++ T2 ++ 44 :: r.2))
     else if rd L (skp L e2) = 125 then some (skp L e2 + 1, nl ind d ++ T ++ 58 :: (cb ind ++ T2 ++ nl ind (d - 1) ++ [125]))
     else none
    else none
  else none := rfl
theorem ka_noname (h : KeyAt L esc ind n x d (m + 1) y E) (hq : rd L y ≠ 34) : fv L esc ind (n + 1) .val x d = none := by
 unfold KeyAt at h
 rw [h, fv_key, if_neg hq]
 rfl
theorem ka_nostr (h : KeyAt L esc ind n x d (m + 1) y E) (hq : rd L y = 34) (hs : fstr L esc y = none) : fv L esc ind (n + 1) .val x d = none := by
 unfold KeyAt at h
 rw [h, fv_key, if_pos hq, hs]
 rfl
theorem ka_nocolon (h : KeyAt L esc ind n x d (m + 1) y E) (hq : rd L y = 34) (hs : fstr L esc y = some (e, T)) (hc : rd L (skp L e) ≠ 58) : fv L esc ind (n + 1) .val x d = none := by
 unfold KeyAt at h
 rw [h, fv_key, if_pos hq, hs]
 simp only [if_neg hc]
 rfl
theorem ka_noval (h : KeyAt L esc ind n x d (m + 1) y E) (hq : rd L y = 34) (hs : fstr L esc y = some (e, T)) (hc : rd L (skp L e) = 58) (hv : fv L esc ind m .val (skp L (skp L e + 1)) (d + 1) = none) : fv L esc ind (n + 1) .val x d = none := by
 unfold KeyAt at h
 rw [h, fv_key, if_pos hq, hs]
 simp only [if_pos hc, hv]
 rfl
theorem ka_next (h : KeyAt L esc ind n x d (m + 1) y E) (hq : rd L y = 34) (hs : fstr L esc y = some (e, T)) (hc : rd L (skp L e) = 58) (hv : fv L esc ind m .val (skp L (skp L e + 1)) (d + 1) = some (e2, T2)) (h4 : rd L (skp L e2) = 44) :
  KeyAt L esc ind n x d m (skp L (skp L e2 + 1)) (E ++ nl ind (d + 1) ++ T ++ [58] ++ cb ind ++ T2 ++ [44]) := by
 unfold KeyAt at h ⊢
 rw [h, fv_key, if_pos hq, hs]
 simp only [if_pos hc, hv, if_pos h4]
 cases fv L esc ind m .key (skp L (skp L e2 + 1)) (d + 1) <;> simp
theorem ka_end (h : KeyAt L esc ind n x d (m + 1) y E) (hq : rd L y = 34) (hs : fstr L esc y = some (e, T)) (hc : rd L (skp L e) = 58) (hv : fv L esc ind m .val (skp L (skp L e + 1)) (d + 1) = some (e2, T2)) (h4 : rd L (skp L e2) = 125) :
  fv L esc ind (n + 1) .val x d = some (skp L e2 + 1, E ++ nl ind (d + 1) ++ T ++ [58] ++ cb ind ++ T2 ++ nl ind d ++ [125]) := by
 unfold KeyAt at h
 rw [h, fv_key, if_pos hq, hs]
 simp only [if_pos hc, hv, if_neg (show ¬ rd L (skp L e2) = 44 by omega), if_pos h4]
 simp
theorem ka_bad (h : KeyAt L esc ind n x d (m + 1) y E) (hq : rd L y = 34) (hs : fstr L esc y = some (e, T)) (hc : rd L (skp L e) = 58) (hv : fv L esc ind m .val (skp L (skp L e + 1)) (d + 1) = some (e2, T2)) (h4 : rd L (skp L e2) ≠ 44) (h5 : rd L (skp L e2) ≠ 125) : fv L esc ind (n + 1) .val x d = none := by
 unfold KeyAt at h
 rw [h, fv_key, if_pos hq, hs]
 simp only [if_pos hc, hv, if_neg h4, if_neg h5]
 rfl
theorem cb_some (h : ind ≠ none) : cb ind = [32] := by cases ind with | none => exact absurd rfl h | some q => rfl
set_option maxRecDepth 100000 in
set_option maxHeartbeats 16000000 in
theorem formatObject_nil (hip : ip = .pointer none) (hin : ind = none) (ih : ∀ k, k ≤ n → ValC N ad c L esc ip ind k) (hC : Ctx N w v ad c L ip ind) (ho : Own N w v xs) (hr : Room xs L x) (h0 : 0 ≤ x) (h1 : x < L.length) (hd : d ≤ 10000) (hn : 2 * ((L.length : Int) - x) ≤ n) (hc : rd L x = 123) :
  Calls Tryd.prog 78 #[v, .slice (some ad) L.length c, .int .i64 x, .bool esc, ip, .int .i64 d] w (FmtAns N w v xs (fv L esc ind (n + 1) .val x d)) := by
 have IH := Aside0.mk ih
 have HC := Aside0.mk hC
 have HO := Aside0.mk ho
 have HT := Aside0.mk hC.txt
 have HOK := Aside0.mk hC.ok
 have hsm := hC.txt.small
 have hin0 := hC.txt.inside h0 h1 (by omega)
 have HR := Aside0.mk hr
 obtain ⟨D, hD⟩ : ∃ D : Int, D = (d : Int) := ⟨_, rfl⟩
 obtain ⟨D1, hD1⟩ : ∃ D1 : Int, D1 = ((d + 1 : Nat) : Int) := ⟨_, rfl⟩
 have ed : wrap64 (D + 1) = D1 := by unfold wrap64; omega
 have eD : wrap64 (D1 - 1) = D := by unfold wrap64; omega
 have ex : wrap64 (x + 1) = x + 1 := by unfold wrap64; omega
 rw [← hD]
 have HD := Aside0.mk hD
 have HD1 := Aside0.mk hD1
 have HIN := Aside0.mk hin
 clear ih hC ho hr hin
 by_cases hdp : 10000 < d + 1
 ·have b1 : decide ((10000 : Int) < D1) = true := decide_eq_true (by omega)
  have HRES := Aside0.mk (ka_deep (esc := esc) (ind := ind) (n := n) hc hdp)
  clear hd hdp hn hc hD hD1
  go_enter Tryd.func78, Tryd.ntmps78
  go_wp2_with fail
  refine bodyPost_ret (v := .tuple #[v, .int .i64 0, .bool false]) ?_ rfl ?_
  ·simp [results, Tryd.results78, go_sem]
  rw [HRES.out]
  exact ⟨v, v, rfl, Grew.refl _ _⟩
 have b1 : decide ((10000 : Int) < D1) = false := decide_eq_false (by omega)
 have hk := skp_ge HT.out (x := x + 1) (by omega) (by omega)
 obtain ⟨z, hz⟩ : ∃ z, z = skp L (x + 1) := ⟨_, rfl⟩
 have HSK : Aside0 (∀ W, Buf W ad c L → Calls Tryd.prog 74 #[.slice (some ad) L.length c, .int .i64 (x + 1)] W fun e w' => e = .returned (.int .i64 z) ∧ Drawn0 W w') := ⟨fun W hB => by rw [hz]; exact skipSp hB (x + 1) (by omega) (by omega)⟩
 have HB : Aside0 (∀ u W, Grew w v W u → Buf W ad c L) := ⟨fun u W hg => (HC.out.grew HO.out hg).buf⟩
 have hz0 : 0 ≤ z := by omega
 have hz1 : z < L.length := by omega
 have ez : wrap64 (z + 1) = z + 1 := by unfold wrap64; omega
 by_cases he : rd L z = 125
 ·have HRES := Aside0.mk (ka_empty (esc := esc) (ind := ind) (n := n) (d := d) hc (by omega) (by rw [← hz]; exact he))
  rw [← hz] at HRES
  clear hd hdp hn hc hk hz hD hD1 hin0
  go_enter Tryd.func78, Tryd.ntmps78
  go_wp2_with (first | ((with_reducible refine gate_builtin (b := .append) (xs := #[.tmp 21, .tmp 22]) rfl ?_); at_builtin; refine wpList_app rfl (.tmp 21) (.tmp 22) 22 rfl v _ (xs) [123] rfl rfl (HO.out.move (below_alloc (Below.refl _ _) _)) ?aS ?aB ?aN ?_; (case aS => (refine src_new (b := (w).heap.size) ?_ rfl; exact ⟨_, blk_new (w) _, rfl⟩)); (case aB => have := HR.out; unfold Room at this; simp; omega); (case aN => have := HC.out.size; simp; omega); intro v1 w1 ho hg; have HO1 := Aside0.mk ho; have HG1 := Aside0.mk (((Grew.refl (w) v).alloc _).trans hg); clear ho hg))
  with_reducible refine (HSK.out _ (HB.out _ _ HG1.out)).mono ?_
  rintro e w2 ⟨rfl, ⟨m1, rfl⟩⟩
  have hx := (HB.out _ _ (HG1.out.drewN m1)).at_ z hz0 hz1
  rw [he] at hx
  go_wp2_with (first | ((with_reducible refine gate_builtin (b := .append) (xs := #[.tmp 33, .tmp 34]) rfl ?_); at_builtin; refine wpList_app rfl (.tmp 33) (.tmp 34) 22 rfl v1 _ (xs ++ [123]) [125] rfl rfl (HO1.out.move (below_alloc (pw_below_drewN (Below.refl _ _) m1) _)) ?aS ?aB ?aN ?_; (case aS => (refine src_new (b := (w1.drewN m1).heap.size) ?_ rfl; exact ⟨_, blk_new (w1.drewN m1) _, rfl⟩)); (case aB => have := HR.out; unfold Room at this; simp; omega); (case aN => have := HC.out.size; have := HG1.out.size; simp; omega); intro v2 w3 ho hg; have HO2 := Aside0.mk ho; have HG2 := Aside0.mk (((Grew.refl (w1.drewN m1) v1).alloc _).trans hg); clear ho hg))
  refine bodyPost_ret (v := .tuple #[v2, .int .i64 (z + 1), .bool true]) ?_ rfl ?_
  ·simp [results, Tryd.results78, go_sem]
  rw [HRES.out]
  exact ⟨v2, rfl, by have := HO2.out; simpa only [List.append_assoc, List.cons_append, List.nil_append] using this, HG1.out.trans ((Grew.refl w1 v1).drewN m1 |>.trans HG2.out)⟩
 have HIS := Aside0.mk (ka_start (esc := esc) (ind := ind) (n := n) (d := d) hc (by omega) (by rw [← hz]; exact he))
 rw [← hz] at HIS
 have f125 : (rd L z == 125) = false := beq_eq_false_iff_ne.mpr he
 have HVAL : Aside0 (∀ W u ys y m, Own N W u ys → Grew w v W u → Room ys L y → 0 ≤ y → y < L.length → m ≤ n → 2 * ((L.length : Int) - y) + 1 ≤ m → Calls Tryd.prog 73 #[u, .slice (some ad) L.length c, .int .i64 y, .bool esc, ip, .int .i64 D1] W (FmtAns N W u ys (fv L esc ind m .val y (d + 1)))) :=
  ⟨fun W u ys y m h2 h3 h4 h5 h6 h7 h8 => by rw [HD1.out]; exact IH.out m h7 W u ys y (d + 1) (HC.out.grew HO.out h3) h2 h4 h5 h6 (by omega) h8⟩
 have HSTR : Aside0 (∀ (W : World) (u : Value) (ys : List Int) (y : Int), Own N W u ys → Grew w v W u → Room ys L y → 0 ≤ y → y < L.length → rd L y = 34 → Calls Tryd.prog 80 #[u, .slice (some ad) L.length c, .int .i64 y, .bool esc] W (FmtAns N W u ys (fstr L esc y))) :=
  ⟨fun W u ys y h2 h3 h4 h5 h6 h7 => formatString (HC.out.grew HO.out h3) h2 h4 h5 h6 h7⟩
 have HSKY : Aside0 (∀ (W : World) (y : Int), Buf W ad c L → 0 ≤ y → y < L.length → Calls Tryd.prog 74 #[.slice (some ad) L.length c, .int .i64 y] W fun e w' => e = .returned (.int .i64 (skp L y)) ∧ Drawn0 W w') := ⟨fun W y hB h0 h1 => skipSp hB y h0 h1⟩
 have HN1 : Aside0 ((nl ind (d + 1)).length ≤ 90000) := ⟨nl_le HOK.out (d + 1) (by omega)⟩
 have HN0 : Aside0 ((nl ind d).length ≤ 90000) := ⟨nl_le HOK.out d (by omega)⟩
 have HCB : Aside0 ((cb ind).length ≤ 1) := ⟨cb_le⟩
 have HBN : Aside0 (2 * ((L.length : Int) - z) + 2 ≤ n ∧ RoomI (xs ++ [123]) L z ∧ x + 1 ≤ z) := ⟨by omega, by have := HR.out; unfold Room at this; unfold RoomI; simp; omega, by have := hk.1; omega⟩
 have HSZ := Aside0.mk HC.out.size
 have HDD : Aside0 (d + 1 ≤ 10000) := ⟨by omega⟩
 clear hn hc hk hz hD hD1 hin0 he hdp hd
 subst hip
 go_enter Tryd.func78, Tryd.ntmps78
 go_wp2_with (first | ((with_reducible refine gate_builtin (b := .append) (xs := #[.tmp 21, .tmp 22]) rfl ?_); at_builtin; refine wpList_app rfl (.tmp 21) (.tmp 22) 22 rfl v _ (xs) [123] rfl rfl (HO.out.move (below_alloc (Below.refl _ _) _)) ?aS ?aB ?aN ?_; (case aS => (refine src_new (b := (w).heap.size) ?_ rfl; exact ⟨_, blk_new (w) _, rfl⟩)); (case aB => have := HR.out; unfold Room at this; simp; omega); (case aN => have := HSZ.out; simp; omega); intro v1 w1 ho hg; have HO1 := Aside0.mk ho; have HG1 := Aside0.mk (((Grew.refl (w) v).alloc _).trans hg); clear ho hg))
 with_reducible refine (HSK.out _ (HB.out _ _ HG1.out)).mono ?_
 rintro e w2 ⟨rfl, ⟨m1, rfl⟩⟩
 have hx := (HB.out _ _ (HG1.out.drewN m1)).at_ z hz0 hz1
 go_wp2_with fail
 go_loopg [0, 2] (L.length + 1) (fun kq v0 v2 w' => ∃ (y : Int) (m : Nat) (E : List Int), v2 = .int .i64 y ∧ Aside0 (x + 1 ≤ y ∧ y < L.length ∧ 2 * ((L.length : Int) - y) + 2 ≤ m ∧ m ≤ n ∧ (L.length : Int) + 1 ≤ y + kq) ∧ Aside0 (KeyAt L esc ind n x d m y E) ∧ Aside0 (RoomI (xs ++ E) L y) ∧ Aside0 (Own N w' v0 (xs ++ E)) ∧ Aside0 (Grew w v w' v0))
 case atStart => exact ⟨z, n, [123], rfl, ⟨HBN.out.2.2, hz1, HBN.out.1, Nat.le_refl _, by omega⟩, HIS, ⟨HBN.out.2.1⟩, ⟨HO1.out⟩, ⟨HG1.out.drewN m1⟩⟩
 case round =>
  obtain ⟨y, m, E, rfl, HY, HI, HRI, HOW, HG⟩ := hrel
  obtain ⟨y1, y2, y3, y4, y5⟩ := HY.out
  obtain _ | g0 := gk
  ·exfalso; omega
  obtain ⟨m', hm'⟩ : ∃ m', m = m' + 1 := ⟨m - 1, by omega⟩
  subst hm'
  have HRL : Aside0 (((xs ++ E).length : Int) ≤ 60100000000000 ∧ Room (xs ++ E ++ nl ind (d + 1)) L y) := ⟨by
   have h1 := HRI.out
   have h2 := HN1.out
   unfold RoomI at h1
   refine ⟨by omega, ?_⟩
   unfold Room
   rw [List.length_append]
   omega⟩
  have hy0 : 0 ≤ y := by omega
  have HYB := Aside0.mk (And.intro hy0 (And.intro (show m' ≤ n by omega) (show 2 * ((L.length : Int) - y) + 2 ≤ m' + 1 by omega)))
  clear y1 y3 y4 y5
  have HO3 : Aside0 (Own N wr u0 (xs ++ E ++ nl ind (d + 1))) := ⟨by rw [HIN.out]; have := HOW.out; simpa [nl] using this⟩
  have HG3 := HG
  have hxy := (HB.out _ _ HG3.out).at_ y hy0 y2
  by_cases q1 : rd L y = 34
  case neg =>
   have HRES := Aside0.mk (ka_noname HI.out q1)
   have fq : (rd L y == 34) = false := beq_eq_false_iff_ne.mpr q1
   clear q1
   go_wp2_with fail
   refine bodyPost_ret (v := .tuple #[u0, .int .i64 0, .bool false]) ?_ rfl ?_
   ·simp [results, Tryd.results78, go_sem]
   rw [HRES.out]
   exact ⟨_, _, rfl, HG3.out⟩
  have HST := Aside0.mk (HSTR.out _ _ _ y HO3.out HG3.out HRL.out.2 hy0 y2 q1)
  rw [q1] at hxy
  have hinq := HT.out.inside hy0 y2 (by omega)
  have HQ := Aside0.mk q1
  clear q1
  go_wp2_with fail
  with_reducible refine HST.out.mono ?_
  rintro e w4 hans
  cases hs : fstr L esc y with
  | none =>
   rw [hs] at hans
   obtain ⟨v4, u4, rfl, hg4⟩ := hans
   have HRES := Aside0.mk (ka_nostr HI.out HQ.out hs)
   have HG4 := Aside0.mk (HG3.out.trans hg4)
   clear hg4 hs
   go_wp2_with fail
   refine bodyPost_ret (v := .tuple #[v4, .int .i64 0, .bool false]) ?_ rfl ?_
   ·simp [results, Tryd.results78, go_sem]
   rw [HRES.out]
   exact ⟨v4, u4, rfl, HG4.out⟩
  | some pr =>
   obtain ⟨e1, T⟩ := pr
   rw [hs] at hans
   obtain ⟨v4, rfl, ho4, hg4⟩ := hans
   have HO4 := Aside0.mk ho4
   have HG4 := Aside0.mk (HG3.out.trans hg4)
   have hok := fstr_ok (q := fun s => s) HT.out hy0 (by omega) hs
   have hle := fstr_len HT.out hy0 (by omega) hs
   have hk1 := skp_ge HT.out (x := e1) (by omega) hok.2.1
   have HSK2 := Aside0.mk fun (W : World) (hB : Buf W ad c L) => HSKY.out W e1 hB (by omega) hok.2.1
   obtain ⟨z1, hz1e⟩ : ∃ z1, z1 = skp L e1 := ⟨_, rfl⟩
   rw [← hz1e] at hk1 HSK2
   have hz10 : 0 ≤ z1 := by omega
   have hz11 : z1 < L.length := hk1.2
   have ez1 : wrap64 (z1 + 1) = z1 + 1 := by unfold wrap64; omega
   have HL4 : Aside0 (((xs ++ E ++ nl ind (d + 1) ++ T).length : Int) + 200000 * ((L.length : Int) - e1) + 10000 ≤ 60000000000000 ∧ y < e1 ∧ e1 ≤ z1) := ⟨by
    have h1 := HRI.out
    have h2 := HN1.out
    unfold RoomI at h1
    refine ⟨?_, by omega, hk1.1⟩
    rw [List.length_append, List.length_append]
    omega⟩
   have HS := Aside0.mk hs
   have HZ1 := Aside0.mk hz1e
   clear ho4 hg4 hok hle hk1 hs hz1e hinq
   go_wp2_with fail
   with_reducible refine (HSK2.out _ (HB.out _ _ HG4.out)).mono ?_
   rintro e w5 ⟨rfl, ⟨m5, rfl⟩⟩
   have hx2 := (HB.out _ _ (HG4.out.drewN m5)).at_ z1 hz10 hz11
   by_cases q2 : rd L z1 = 58
   case neg =>
    have HRES := Aside0.mk (ka_nocolon HI.out HQ.out HS.out (by rw [← HZ1.out]; exact q2))
    have fq : (rd L z1 == 58) = false := beq_eq_false_iff_ne.mpr q2
    clear q2
    go_wp2_with fail
    refine bodyPost_ret (v := .tuple #[v4, .int .i64 0, .bool false]) ?_ rfl ?_
    ·simp [results, Tryd.results78, go_sem]
    rw [HRES.out]
    exact ⟨v4, v4, rfl, HG4.out.drewN m5⟩
   rw [q2] at hx2
   have hin5 := HT.out.inside hz10 hz11 (by omega)
   have hk2 := skp_ge HT.out (x := z1 + 1) (by omega) (by omega)
   have HSK3 := Aside0.mk fun (W : World) (hB : Buf W ad c L) => HSKY.out W (z1 + 1) hB (by omega) (by omega)
   obtain ⟨z2, hz2⟩ : ∃ z2, z2 = skp L (z1 + 1) := ⟨_, rfl⟩
   rw [← hz2] at hk2 HSK3
   have HK2 := Aside0.mk hk2
   have HC2 : Aside0 (rd L (skp L e1) = 58) := ⟨by rw [← HZ1.out]; exact q2⟩
   have HZ2 : Aside0 (z2 = skp L (skp L e1 + 1)) := ⟨by rw [← HZ1.out]; exact hz2⟩
   clear q2 hin5 hk2 hz2
   go_wp2_with (first | ((with_reducible refine gate_builtin (b := .append) (xs := #[.tmp 71, .tmp 72]) rfl ?_); at_builtin; refine wpList_app rfl (.tmp 71) (.tmp 72) 22 rfl v4 _ (xs ++ E ++ nl ind (d + 1) ++ T) [58] rfl rfl (HO4.out.move (below_alloc (pw_below_drewN (Below.refl _ _) m5) _)) ?aS ?aB ?aN ?_; (case aS => (refine src_new (b := (w4.drewN m5).heap.size) ?_ rfl; exact ⟨_, blk_new (w4.drewN m5) _, rfl⟩)); (case aB => have h1 := HL4.out; simp only [List.length_append, List.length_cons, List.length_nil] at h1 ⊢; omega); (case aN => have := HSZ.out; have := HG4.out.size; simp; omega); intro v6 w6 ho hg; have HO6 := Aside0.mk ho; have HG6 := Aside0.mk (((Grew.refl (w4.drewN m5) v4).alloc _).trans hg); clear ho hg))
   have HO7' : Aside0 (Own N w6 v6 (xs ++ E ++ nl ind (d + 1) ++ T ++ [58] ++ cb ind)) := ⟨by rw [HIN.out]; have := HO6.out; rw [HIN.out] at this; simpa [cb] using this⟩
   have HG7' := Aside0.mk ((HG4.out.drewN m5).trans HG6.out)
   with_reducible refine (HSK3.out _ (HB.out _ _ HG7'.out)).mono ?_
   rintro e w8 ⟨rfl, ⟨m8, rfl⟩⟩
   have HRM : Aside0 (Room (xs ++ E ++ nl ind (d + 1) ++ T ++ [58] ++ cb ind) L z2) := ⟨by
    have h1 := HL4.out
    have h2 := HK2.out
    have h3 := HCB.out
    unfold Room
    rw [List.length_append, List.length_append]
    simp only [List.length_cons, List.length_nil]
    omega⟩
   go_wp2_with fail
   with_reducible refine (HVAL.out _ _ (xs ++ E ++ nl ind (d + 1) ++ T ++ [58] ++ cb ind) z2 m' (HO7'.out.move (pw_below_drewN (Below.refl _ _) m8)) (HG7'.out.drewN m8) HRM.out (by have := HK2.out; omega) HK2.out.2 HYB.out.2.1 (by have := HYB.out; have := HK2.out; have := HL4.out; omega)).mono ?_
   rintro e w9 hans
   cases hv : fv L esc ind m' .val z2 (d + 1) with
   | none =>
    rw [hv] at hans
    obtain ⟨v9, u9', rfl, hg9⟩ := hans
    have HRES := Aside0.mk (ka_noval HI.out HQ.out HS.out HC2.out (by rw [← HZ2.out]; exact hv))
    have HG9 := Aside0.mk ((HG7'.out.drewN m8).trans hg9)
    clear hg9 hv
    go_wp2_with fail
    refine bodyPost_ret (v := .tuple #[v9, .int .i64 0, .bool false]) ?_ rfl ?_
    ·simp [results, Tryd.results78, go_sem]
    rw [HRES.out]
    exact ⟨v9, u9', rfl, HG9.out⟩
   | some pr2 =>
    obtain ⟨e2, T2⟩ := pr2
    rw [hv] at hans
    obtain ⟨v9, rfl, ho9, hg9⟩ := hans
    have HO9 := Aside0.mk ho9
    have HG9 := Aside0.mk ((HG7'.out.drewN m8).trans hg9)
    have hz20 : 0 ≤ z2 := by have := HK2.out; omega
    have hok := fv_ok (q := fun s => s) HT.out _ _ _ _ _ _ hz20 HK2.out.2 hv
    have hle := fv_len HT.out HOK.out _ _ _ _ _ _ hz20 HK2.out.2 HDD.out hv
    have hk3 := skp_ge HT.out (x := e2) (by omega) hok.2.1
    have HSK4 := Aside0.mk fun (W : World) (hB : Buf W ad c L) => HSKY.out W e2 hB (by omega) hok.2.1
    obtain ⟨z3, hz3⟩ : ∃ z3, z3 = skp L e2 := ⟨_, rfl⟩
    rw [← hz3] at hk3 HSK4
    have hz30 : 0 ≤ z3 := by omega
    have hz31 : z3 < L.length := hk3.2
    have ez3 : wrap64 (z3 + 1) = z3 + 1 := by unfold wrap64; omega
    have HL9 : Aside0 (((xs ++ E ++ nl ind (d + 1) ++ T ++ [58] ++ cb ind ++ T2).length : Int) + 200000 * ((L.length : Int) - e2) + 10000 ≤ 60000000000000 ∧ z2 < e2 ∧ e2 ≤ z3) := ⟨by
     have h1 := HL4.out
     have h2 := HK2.out
     have h3 := HCB.out
     refine ⟨?_, hok.1, hk3.1⟩
     rw [List.length_append, List.length_append, List.length_append]
     simp only [List.length_cons, List.length_nil]
     omega⟩
    have HV : Aside0 (fv L esc ind m' .val (skp L (skp L e1 + 1)) (d + 1) = some (e2, T2)) := ⟨by rw [← HZ2.out]; exact hv⟩
    have HZ3 := Aside0.mk hz3
    clear ho9 hg9 hok hle hk3 hv hz3 hz20
    go_wp2_with fail
    with_reducible refine (HSK4.out _ (HB.out _ _ HG9.out)).mono ?_
    rintro e w10 ⟨rfl, ⟨m10, rfl⟩⟩
    have hx3 := (HB.out _ _ (HG9.out.drewN m10)).at_ z3 hz30 hz31
    by_cases c1 : rd L z3 = 44
    ·have HIS2 := Aside0.mk (ka_next HI.out HQ.out HS.out HC2.out HV.out (by rw [← HZ3.out]; exact c1))
     rw [← HZ3.out] at HIS2
     rw [c1] at hx3
     have hin6 := HT.out.inside hz30 hz31 (by omega)
     have hk4 := skp_ge HT.out (x := z3 + 1) (by omega) (by omega)
     have HSK5 := Aside0.mk fun (W : World) (hB : Buf W ad c L) => HSKY.out W (z3 + 1) hB (by omega) (by omega)
     obtain ⟨z4, hz4⟩ : ∃ z4, z4 = skp L (z3 + 1) := ⟨_, rfl⟩
     rw [← hz4] at hk4 HIS2 HSK5
     have HK4 := Aside0.mk hk4
     clear c1 hin6 hk4 hz4
     go_wp2_with (first | ((with_reducible refine gate_builtin (b := .append) (xs := #[.tmp 106, .tmp 107]) rfl ?_); at_builtin; refine wpList_app rfl (.tmp 106) (.tmp 107) 22 rfl v9 _ (xs ++ E ++ nl ind (d + 1) ++ T ++ [58] ++ cb ind ++ T2) [44] rfl rfl (HO9.out.move (below_alloc (pw_below_drewN (Below.refl _ _) m10) _)) ?aS ?aB ?aN ?_; (case aS => (refine src_new (b := (w9.drewN m10).heap.size) ?_ rfl; exact ⟨_, blk_new (w9.drewN m10) _, rfl⟩)); (case aB => have h1 := HL9.out; simp only [List.length_append, List.length_cons, List.length_nil] at h1 ⊢; omega); (case aN => have := HSZ.out; have := HG9.out.size; simp; omega); intro v11 w11 ho hg; have HO11 := Aside0.mk ho; have HG11 := Aside0.mk (((Grew.refl (w9.drewN m10) v9).alloc _).trans hg); clear ho hg))
     with_reducible refine (HSK5.out _ (HB.out _ _ ((HG9.out.drewN m10).trans HG11.out))).mono ?_
     rintro e w12 ⟨rfl, ⟨m12, rfl⟩⟩
     go_wp2_with fail
     go_roundg g0
     case measure => omega
     case rel => exact ⟨z4, m', E ++ nl ind (d + 1) ++ T ++ [58] ++ cb ind ++ T2 ++ [44], rfl, ⟨by have := HK4.out; have := HY.out; have := HL9.out; have := HL4.out; have := HK2.out; omega, HK4.out.2, by have := HK4.out; have := HY.out; have := HL9.out; have := HL4.out; have := HK2.out; omega, HYB.out.2.1, by have := HK4.out; have := HY.out; have := HL9.out; have := HL4.out; have := HK2.out; omega⟩, HIS2, ⟨by have h1 := HL9.out; have h2 := HK4.out; unfold RoomI; simp only [List.length_append, List.length_cons, List.length_nil] at h1 ⊢; omega⟩, ⟨show Own N w11 v11 _ by have := HO11.out; simpa only [List.append_assoc] using this⟩, ⟨((HG9.out.drewN m10).trans HG11.out).drewN m12⟩⟩
    have f44 : (rd L z3 == 44) = false := beq_eq_false_iff_ne.mpr c1
    by_cases c2 : rd L z3 = 125
    ·have HRES := Aside0.mk (ka_end HI.out HQ.out HS.out HC2.out HV.out (by rw [← HZ3.out]; exact c2))
     rw [← HZ3.out] at HRES
     rw [c2] at hx3
     clear c1 c2 f44
     go_wp2_with (first | ((with_reducible refine gate_builtin (b := .append) (xs := #[.tmp 122, .tmp 123]) rfl ?_); at_builtin; refine wpList_app rfl (.tmp 122) (.tmp 123) 22 rfl v9 _ (xs ++ E ++ nl ind (d + 1) ++ T ++ [58] ++ cb ind ++ T2) [125] rfl rfl (HO9.out.move (below_alloc (pw_below_drewN (Below.refl _ _) m10) _)) ?aS ?aB ?aN ?_; (case aS => (refine src_new (b := (w9.drewN m10).heap.size) ?_ rfl; exact ⟨_, blk_new (w9.drewN m10) _, rfl⟩)); (case aB => have h1 := HL9.out; simp only [List.length_append, List.length_cons, List.length_nil] at h1 ⊢; omega); (case aN => have := HSZ.out; have := HG9.out.size; simp; omega); intro v14 w14 ho hg; have HO14 := Aside0.mk ho; have HG14 := Aside0.mk (((Grew.refl (w9.drewN m10) v9).alloc _).trans hg); clear ho hg))
     refine bodyPost_ret (v := .tuple #[v14, .int .i64 (z3 + 1), .bool true]) ?_ rfl ?_
     ·simp [results, Tryd.results78, go_sem]
     rw [HRES.out]
     exact ⟨v14, rfl, by rw [HIN.out]; have := HO14.out; rw [HIN.out] at this; simpa [nl, cb] using this, (HG9.out.drewN m10).trans HG14.out⟩
    ·have HRES := Aside0.mk (ka_bad HI.out HQ.out HS.out HC2.out HV.out (by rw [← HZ3.out]; exact c1) (by rw [← HZ3.out]; exact c2))
     have f125' : (rd L z3 == 125) = false := beq_eq_false_iff_ne.mpr c2
     clear c1 c2
     go_wp2_with fail
     refine bodyPost_ret (v := .tuple #[v9, .int .i64 0, .bool false]) ?_ rfl ?_
     ·simp [results, Tryd.results78, go_sem]
     rw [HRES.out]
     exact ⟨v9, v9, rfl, HG9.out.drewN m10⟩
set_option maxRecDepth 100000 in
set_option maxHeartbeats 16000000 in
theorem formatObject_ptr (hip : ∃ g, ip = .pointer (some ⟨g, 0, none⟩)) (hin : ind ≠ none) (ih : ∀ k, k ≤ n → ValC N ad c L esc ip ind k) (hC : Ctx N w v ad c L ip ind) (ho : Own N w v xs) (hr : Room xs L x) (h0 : 0 ≤ x) (h1 : x < L.length) (hd : d ≤ 10000) (hn : 2 * ((L.length : Int) - x) ≤ n) (hc : rd L x = 123) :
  Calls Tryd.prog 78 #[v, .slice (some ad) L.length c, .int .i64 x, .bool esc, ip, .int .i64 d] w (FmtAns N w v xs (fv L esc ind (n + 1) .val x d)) := by
 have IH := Aside0.mk ih
 have HC := Aside0.mk hC
 have HO := Aside0.mk ho
 have HT := Aside0.mk hC.txt
 have HOK := Aside0.mk hC.ok
 have hsm := hC.txt.small
 have hin0 := hC.txt.inside h0 h1 (by omega)
 have HR := Aside0.mk hr
 obtain ⟨D, hD⟩ : ∃ D : Int, D = (d : Int) := ⟨_, rfl⟩
 obtain ⟨D1, hD1⟩ : ∃ D1 : Int, D1 = ((d + 1 : Nat) : Int) := ⟨_, rfl⟩
 have ed : wrap64 (D + 1) = D1 := by unfold wrap64; omega
 have eD : wrap64 (D1 - 1) = D := by unfold wrap64; omega
 have ex : wrap64 (x + 1) = x + 1 := by unfold wrap64; omega
 rw [← hD]
 have HD := Aside0.mk hD
 have HD1 := Aside0.mk hD1
 have HIN := Aside0.mk hin
 clear ih hC ho hr hin
 by_cases hdp : 10000 < d + 1
 ·have b1 : decide ((10000 : Int) < D1) = true := decide_eq_true (by omega)
  have HRES := Aside0.mk (ka_deep (esc := esc) (ind := ind) (n := n) hc hdp)
  clear hd hdp hn hc hD hD1
  go_enter Tryd.func78, Tryd.ntmps78
  go_wp2_with fail
  refine bodyPost_ret (v := .tuple #[v, .int .i64 0, .bool false]) ?_ rfl ?_
  ·simp [results, Tryd.results78, go_sem]
  rw [HRES.out]
  exact ⟨v, v, rfl, Grew.refl _ _⟩
 have b1 : decide ((10000 : Int) < D1) = false := decide_eq_false (by omega)
 have hk := skp_ge HT.out (x := x + 1) (by omega) (by omega)
 obtain ⟨z, hz⟩ : ∃ z, z = skp L (x + 1) := ⟨_, rfl⟩
 have HSK : Aside0 (∀ W, Buf W ad c L → Calls Tryd.prog 74 #[.slice (some ad) L.length c, .int .i64 (x + 1)] W fun e w' => e = .returned (.int .i64 z) ∧ Drawn0 W w') := ⟨fun W hB => by rw [hz]; exact skipSp hB (x + 1) (by omega) (by omega)⟩
 have HB : Aside0 (∀ u W, Grew w v W u → Buf W ad c L) := ⟨fun u W hg => (HC.out.grew HO.out hg).buf⟩
 have hz0 : 0 ≤ z := by omega
 have hz1 : z < L.length := by omega
 have ez : wrap64 (z + 1) = z + 1 := by unfold wrap64; omega
 by_cases he : rd L z = 125
 ·have HRES := Aside0.mk (ka_empty (esc := esc) (ind := ind) (n := n) (d := d) hc (by omega) (by rw [← hz]; exact he))
  rw [← hz] at HRES
  clear hd hdp hn hc hk hz hD hD1 hin0
  go_enter Tryd.func78, Tryd.ntmps78
  go_wp2_with (first | ((with_reducible refine gate_builtin (b := .append) (xs := #[.tmp 21, .tmp 22]) rfl ?_); at_builtin; refine wpList_app rfl (.tmp 21) (.tmp 22) 22 rfl v _ (xs) [123] rfl rfl (HO.out.move (below_alloc (Below.refl _ _) _)) ?aS ?aB ?aN ?_; (case aS => (refine src_new (b := (w).heap.size) ?_ rfl; exact ⟨_, blk_new (w) _, rfl⟩)); (case aB => have := HR.out; unfold Room at this; simp; omega); (case aN => have := HC.out.size; simp; omega); intro v1 w1 ho hg; have HO1 := Aside0.mk ho; have HG1 := Aside0.mk (((Grew.refl (w) v).alloc _).trans hg); clear ho hg))
  with_reducible refine (HSK.out _ (HB.out _ _ HG1.out)).mono ?_
  rintro e w2 ⟨rfl, ⟨m1, rfl⟩⟩
  have hx := (HB.out _ _ (HG1.out.drewN m1)).at_ z hz0 hz1
  rw [he] at hx
  go_wp2_with (first | ((with_reducible refine gate_builtin (b := .append) (xs := #[.tmp 33, .tmp 34]) rfl ?_); at_builtin; refine wpList_app rfl (.tmp 33) (.tmp 34) 22 rfl v1 _ (xs ++ [123]) [125] rfl rfl (HO1.out.move (below_alloc (pw_below_drewN (Below.refl _ _) m1) _)) ?aS ?aB ?aN ?_; (case aS => (refine src_new (b := (w1.drewN m1).heap.size) ?_ rfl; exact ⟨_, blk_new (w1.drewN m1) _, rfl⟩)); (case aB => have := HR.out; unfold Room at this; simp; omega); (case aN => have := HC.out.size; have := HG1.out.size; simp; omega); intro v2 w3 ho hg; have HO2 := Aside0.mk ho; have HG2 := Aside0.mk (((Grew.refl (w1.drewN m1) v1).alloc _).trans hg); clear ho hg))
  refine bodyPost_ret (v := .tuple #[v2, .int .i64 (z + 1), .bool true]) ?_ rfl ?_
  ·simp [results, Tryd.results78, go_sem]
  rw [HRES.out]
  exact ⟨v2, rfl, by have := HO2.out; simpa only [List.append_assoc, List.cons_append, List.nil_append] using this, HG1.out.trans ((Grew.refl w1 v1).drewN m1 |>.trans HG2.out)⟩
 have HIS := Aside0.mk (ka_start (esc := esc) (ind := ind) (n := n) (d := d) hc (by omega) (by rw [← hz]; exact he))
 rw [← hz] at HIS
 have f125 : (rd L z == 125) = false := beq_eq_false_iff_ne.mpr he
 have HVAL : Aside0 (∀ W u ys y m, Own N W u ys → Grew w v W u → Room ys L y → 0 ≤ y → y < L.length → m ≤ n → 2 * ((L.length : Int) - y) + 1 ≤ m → Calls Tryd.prog 73 #[u, .slice (some ad) L.length c, .int .i64 y, .bool esc, ip, .int .i64 D1] W (FmtAns N W u ys (fv L esc ind m .val y (d + 1)))) :=
  ⟨fun W u ys y m h2 h3 h4 h5 h6 h7 h8 => by rw [HD1.out]; exact IH.out m h7 W u ys y (d + 1) (HC.out.grew HO.out h3) h2 h4 h5 h6 (by omega) h8⟩
 have HSTR : Aside0 (∀ (W : World) (u : Value) (ys : List Int) (y : Int), Own N W u ys → Grew w v W u → Room ys L y → 0 ≤ y → y < L.length → rd L y = 34 → Calls Tryd.prog 80 #[u, .slice (some ad) L.length c, .int .i64 y, .bool esc] W (FmtAns N W u ys (fstr L esc y))) :=
  ⟨fun W u ys y h2 h3 h4 h5 h6 h7 => formatString (HC.out.grew HO.out h3) h2 h4 h5 h6 h7⟩
 have HSKY : Aside0 (∀ (W : World) (y : Int), Buf W ad c L → 0 ≤ y → y < L.length → Calls Tryd.prog 74 #[.slice (some ad) L.length c, .int .i64 y] W fun e w' => e = .returned (.int .i64 (skp L y)) ∧ Drawn0 W w') := ⟨fun W y hB h0 h1 => skipSp hB y h0 h1⟩
 have HNL1 : Aside0 (∀ W u ys, Own N W u ys → Grew w v W u → (ys.length : Int) ≤ 60100000000000 → Calls Tryd.prog 84 #[ip, u, .int .i64 D1] W fun e w' => ∃ v', e = .returned v' ∧ Own N w' v' (ys ++ nl ind (d + 1)) ∧ Grew W u w' v') :=
  ⟨fun W u ys h2 h3 h4 => by rw [HD1.out]; exact appendNewline (HC.out.grew HO.out h3) h2 h4 HIN.out (d + 1) (by omega)⟩
 have HNL0 : Aside0 (∀ W u ys, Own N W u ys → Grew w v W u → (ys.length : Int) ≤ 60100000000000 → Calls Tryd.prog 84 #[ip, u, .int .i64 D] W fun e w' => ∃ v', e = .returned v' ∧ Own N w' v' (ys ++ nl ind d) ∧ Grew W u w' v') :=
  ⟨fun W u ys h2 h3 h4 => by rw [HD.out]; exact appendNewline (HC.out.grew HO.out h3) h2 h4 HIN.out d (by omega)⟩
 have HN1 : Aside0 ((nl ind (d + 1)).length ≤ 90000) := ⟨nl_le HOK.out (d + 1) (by omega)⟩
 have HN0 : Aside0 ((nl ind d).length ≤ 90000) := ⟨nl_le HOK.out d (by omega)⟩
 have HCB : Aside0 ((cb ind).length ≤ 1) := ⟨cb_le⟩
 have HBN : Aside0 (2 * ((L.length : Int) - z) + 2 ≤ n ∧ RoomI (xs ++ [123]) L z ∧ x + 1 ≤ z) := ⟨by omega, by have := HR.out; unfold Room at this; unfold RoomI; simp; omega, by have := hk.1; omega⟩
 have HSZ := Aside0.mk HC.out.size
 have HDD : Aside0 (d + 1 ≤ 10000) := ⟨by omega⟩
 clear hn hc hk hz hD hD1 hin0 he hdp hd
 obtain ⟨g, hip⟩ := hip
 subst hip
 go_enter Tryd.func78, Tryd.ntmps78
 go_wp2_with (first | ((with_reducible refine gate_builtin (b := .append) (xs := #[.tmp 21, .tmp 22]) rfl ?_); at_builtin; refine wpList_app rfl (.tmp 21) (.tmp 22) 22 rfl v _ (xs) [123] rfl rfl (HO.out.move (below_alloc (Below.refl _ _) _)) ?aS ?aB ?aN ?_; (case aS => (refine src_new (b := (w).heap.size) ?_ rfl; exact ⟨_, blk_new (w) _, rfl⟩)); (case aB => have := HR.out; unfold Room at this; simp; omega); (case aN => have := HSZ.out; simp; omega); intro v1 w1 ho hg; have HO1 := Aside0.mk ho; have HG1 := Aside0.mk (((Grew.refl (w) v).alloc _).trans hg); clear ho hg))
 with_reducible refine (HSK.out _ (HB.out _ _ HG1.out)).mono ?_
 rintro e w2 ⟨rfl, ⟨m1, rfl⟩⟩
 have hx := (HB.out _ _ (HG1.out.drewN m1)).at_ z hz0 hz1
 go_wp2_with fail
 go_loopg [0, 2] (L.length + 1) (fun kq v0 v2 w' => ∃ (y : Int) (m : Nat) (E : List Int), v2 = .int .i64 y ∧ Aside0 (x + 1 ≤ y ∧ y < L.length ∧ 2 * ((L.length : Int) - y) + 2 ≤ m ∧ m ≤ n ∧ (L.length : Int) + 1 ≤ y + kq) ∧ Aside0 (KeyAt L esc ind n x d m y E) ∧ Aside0 (RoomI (xs ++ E) L y) ∧ Aside0 (Own N w' v0 (xs ++ E)) ∧ Aside0 (Grew w v w' v0))
 case atStart => exact ⟨z, n, [123], rfl, ⟨HBN.out.2.2, hz1, HBN.out.1, Nat.le_refl _, by omega⟩, HIS, ⟨HBN.out.2.1⟩, ⟨HO1.out⟩, ⟨HG1.out.drewN m1⟩⟩
 case round =>
  obtain ⟨y, m, E, rfl, HY, HI, HRI, HOW, HG⟩ := hrel
  obtain ⟨y1, y2, y3, y4, y5⟩ := HY.out
  obtain _ | g0 := gk
  ·exfalso; omega
  obtain ⟨m', hm'⟩ : ∃ m', m = m' + 1 := ⟨m - 1, by omega⟩
  subst hm'
  have HRL : Aside0 (((xs ++ E).length : Int) ≤ 60100000000000 ∧ Room (xs ++ E ++ nl ind (d + 1)) L y) := ⟨by
   have h1 := HRI.out
   have h2 := HN1.out
   unfold RoomI at h1
   refine ⟨by omega, ?_⟩
   unfold Room
   rw [List.length_append]
   omega⟩
  have hy0 : 0 ≤ y := by omega
  have HYB := Aside0.mk (And.intro hy0 (And.intro (show m' ≤ n by omega) (show 2 * ((L.length : Int) - y) + 2 ≤ m' + 1 by omega)))
  clear y1 y3 y4 y5
  go_wp2_with fail
  with_reducible refine (HNL1.out _ _ _ HOW.out HG.out HRL.out.1).mono ?_
  rintro e w3 ⟨v3, rfl, ho3, hg3⟩
  have HO3 := Aside0.mk ho3
  have HG3 := Aside0.mk (HG.out.trans hg3)
  clear ho3 hg3
  have hxy := (HB.out _ _ HG3.out).at_ y hy0 y2
  by_cases q1 : rd L y = 34
  case neg =>
   have HRES := Aside0.mk (ka_noname HI.out q1)
   have fq : (rd L y == 34) = false := beq_eq_false_iff_ne.mpr q1
   clear q1
   go_wp2_with fail
   refine bodyPost_ret (v := .tuple #[v3, .int .i64 0, .bool false]) ?_ rfl ?_
   ·simp [results, Tryd.results78, go_sem]
   rw [HRES.out]
   exact ⟨_, _, rfl, HG3.out⟩
  have HST := Aside0.mk (HSTR.out _ _ _ y HO3.out HG3.out HRL.out.2 hy0 y2 q1)
  rw [q1] at hxy
  have hinq := HT.out.inside hy0 y2 (by omega)
  have HQ := Aside0.mk q1
  clear q1
  go_wp2_with fail
  with_reducible refine HST.out.mono ?_
  rintro e w4 hans
  cases hs : fstr L esc y with
  | none =>
   rw [hs] at hans
   obtain ⟨v4, u4, rfl, hg4⟩ := hans
   have HRES := Aside0.mk (ka_nostr HI.out HQ.out hs)
   have HG4 := Aside0.mk (HG3.out.trans hg4)
   clear hg4 hs
   go_wp2_with fail
   refine bodyPost_ret (v := .tuple #[v4, .int .i64 0, .bool false]) ?_ rfl ?_
   ·simp [results, Tryd.results78, go_sem]
   rw [HRES.out]
   exact ⟨v4, u4, rfl, HG4.out⟩
  | some pr =>
   obtain ⟨e1, T⟩ := pr
   rw [hs] at hans
   obtain ⟨v4, rfl, ho4, hg4⟩ := hans
   have HO4 := Aside0.mk ho4
   have HG4 := Aside0.mk (HG3.out.trans hg4)
   have hok := fstr_ok (q := fun s => s) HT.out hy0 (by omega) hs
   have hle := fstr_len HT.out hy0 (by omega) hs
   have hk1 := skp_ge HT.out (x := e1) (by omega) hok.2.1
   have HSK2 := Aside0.mk fun (W : World) (hB : Buf W ad c L) => HSKY.out W e1 hB (by omega) hok.2.1
   obtain ⟨z1, hz1e⟩ : ∃ z1, z1 = skp L e1 := ⟨_, rfl⟩
   rw [← hz1e] at hk1 HSK2
   have hz10 : 0 ≤ z1 := by omega
   have hz11 : z1 < L.length := hk1.2
   have ez1 : wrap64 (z1 + 1) = z1 + 1 := by unfold wrap64; omega
   have HL4 : Aside0 (((xs ++ E ++ nl ind (d + 1) ++ T).length : Int) + 200000 * ((L.length : Int) - e1) + 10000 ≤ 60000000000000 ∧ y < e1 ∧ e1 ≤ z1) := ⟨by
    have h1 := HRI.out
    have h2 := HN1.out
    unfold RoomI at h1
    refine ⟨?_, by omega, hk1.1⟩
    rw [List.length_append, List.length_append]
    omega⟩
   have HS := Aside0.mk hs
   have HZ1 := Aside0.mk hz1e
   clear ho4 hg4 hok hle hk1 hs hz1e hinq
   go_wp2_with fail
   with_reducible refine (HSK2.out _ (HB.out _ _ HG4.out)).mono ?_
   rintro e w5 ⟨rfl, ⟨m5, rfl⟩⟩
   have hx2 := (HB.out _ _ (HG4.out.drewN m5)).at_ z1 hz10 hz11
   by_cases q2 : rd L z1 = 58
   case neg =>
    have HRES := Aside0.mk (ka_nocolon HI.out HQ.out HS.out (by rw [← HZ1.out]; exact q2))
    have fq : (rd L z1 == 58) = false := beq_eq_false_iff_ne.mpr q2
    clear q2
    go_wp2_with fail
    refine bodyPost_ret (v := .tuple #[v4, .int .i64 0, .bool false]) ?_ rfl ?_
    ·simp [results, Tryd.results78, go_sem]
    rw [HRES.out]
    exact ⟨v4, v4, rfl, HG4.out.drewN m5⟩
   rw [q2] at hx2
   have hin5 := HT.out.inside hz10 hz11 (by omega)
   have hk2 := skp_ge HT.out (x := z1 + 1) (by omega) (by omega)
   have HSK3 := Aside0.mk fun (W : World) (hB : Buf W ad c L) => HSKY.out W (z1 + 1) hB (by omega) (by omega)
   obtain ⟨z2, hz2⟩ : ∃ z2, z2 = skp L (z1 + 1) := ⟨_, rfl⟩
   rw [← hz2] at hk2 HSK3
   have HK2 := Aside0.mk hk2
   have HC2 : Aside0 (rd L (skp L e1) = 58) := ⟨by rw [← HZ1.out]; exact q2⟩
   have HZ2 : Aside0 (z2 = skp L (skp L e1 + 1)) := ⟨by rw [← HZ1.out]; exact hz2⟩
   clear q2 hin5 hk2 hz2
   go_wp2_with (first | ((with_reducible refine gate_builtin (b := .append) (xs := #[.tmp 71, .tmp 72]) rfl ?_); at_builtin; refine wpList_app rfl (.tmp 71) (.tmp 72) 22 rfl v4 _ (xs ++ E ++ nl ind (d + 1) ++ T) [58] rfl rfl (HO4.out.move (below_alloc (pw_below_drewN (Below.refl _ _) m5) _)) ?aS ?aB ?aN ?_; (case aS => (refine src_new (b := (w4.drewN m5).heap.size) ?_ rfl; exact ⟨_, blk_new (w4.drewN m5) _, rfl⟩)); (case aB => have h1 := HL4.out; simp only [List.length_append, List.length_cons, List.length_nil] at h1 ⊢; omega); (case aN => have := HSZ.out; have := HG4.out.size; simp; omega); intro v6 w6 ho hg; have HO6 := Aside0.mk ho; have HG6 := Aside0.mk (((Grew.refl (w4.drewN m5) v4).alloc _).trans hg); clear ho hg) | ((with_reducible refine gate_builtin (b := .append) (xs := #[.tmp 76, .tmp 77]) rfl ?_); at_builtin; refine wpList_app rfl (.tmp 76) (.tmp 77) 22 rfl v6 _ (xs ++ E ++ nl ind (d + 1) ++ T ++ [58]) [32] rfl rfl (HO6.out.move (below_alloc (Below.refl _ _) _)) ?aS ?aB ?aN ?_; (case aS => (refine src_new (b := (w6).heap.size) ?_ rfl; exact ⟨_, blk_new (w6) _, rfl⟩)); (case aB => have h1 := HL4.out; simp only [List.length_append, List.length_cons, List.length_nil] at h1 ⊢; omega); (case aN => have h1 := HSZ.out; have h2 := HG4.out.size; have h3 : w4.heap.size ≤ w6.heap.size := HG6.out.size; simp; omega); intro v7 w7 ho hg; have HO7 := Aside0.mk ho; have HG7 := Aside0.mk (((Grew.refl (w6) v6).alloc _).trans hg); clear ho hg))
   have HO7' : Aside0 (Own N w7 v7 (xs ++ E ++ nl ind (d + 1) ++ T ++ [58] ++ cb ind)) := ⟨by rw [cb_some HIN.out]; exact HO7.out⟩
   have HG7' := Aside0.mk ((HG4.out.drewN m5).trans (HG6.out.trans HG7.out))
   with_reducible refine (HSK3.out _ (HB.out _ _ HG7'.out)).mono ?_
   rintro e w8 ⟨rfl, ⟨m8, rfl⟩⟩
   have HRM : Aside0 (Room (xs ++ E ++ nl ind (d + 1) ++ T ++ [58] ++ cb ind) L z2) := ⟨by
    have h1 := HL4.out
    have h2 := HK2.out
    have h3 := HCB.out
    unfold Room
    rw [List.length_append, List.length_append]
    simp only [List.length_cons, List.length_nil]
    omega⟩
   go_wp2_with fail
   with_reducible refine (HVAL.out _ _ (xs ++ E ++ nl ind (d + 1) ++ T ++ [58] ++ cb ind) z2 m' (HO7'.out.move (pw_below_drewN (Below.refl _ _) m8)) (HG7'.out.drewN m8) HRM.out (by have := HK2.out; omega) HK2.out.2 HYB.out.2.1 (by have := HYB.out; have := HK2.out; have := HL4.out; omega)).mono ?_
   rintro e w9 hans
   cases hv : fv L esc ind m' .val z2 (d + 1) with
   | none =>
    rw [hv] at hans
    obtain ⟨v9, u9', rfl, hg9⟩ := hans
    have HRES := Aside0.mk (ka_noval HI.out HQ.out HS.out HC2.out (by rw [← HZ2.out]; exact hv))
    have HG9 := Aside0.mk ((HG7'.out.drewN m8).trans hg9)
    clear hg9 hv
    go_wp2_with fail
    refine bodyPost_ret (v := .tuple #[v9, .int .i64 0, .bool false]) ?_ rfl ?_
    ·simp [results, Tryd.results78, go_sem]
    rw [HRES.out]
    exact ⟨v9, u9', rfl, HG9.out⟩
   | some pr2 =>
    obtain ⟨e2, T2⟩ := pr2
    rw [hv] at hans
    obtain ⟨v9, rfl, ho9, hg9⟩ := hans
    have HO9 := Aside0.mk ho9
    have HG9 := Aside0.mk ((HG7'.out.drewN m8).trans hg9)
    have hz20 : 0 ≤ z2 := by have := HK2.out; omega
    have hok := fv_ok (q := fun s => s) HT.out _ _ _ _ _ _ hz20 HK2.out.2 hv
    have hle := fv_len HT.out HOK.out _ _ _ _ _ _ hz20 HK2.out.2 HDD.out hv
    have hk3 := skp_ge HT.out (x := e2) (by omega) hok.2.1
    have HSK4 := Aside0.mk fun (W : World) (hB : Buf W ad c L) => HSKY.out W e2 hB (by omega) hok.2.1
    obtain ⟨z3, hz3⟩ : ∃ z3, z3 = skp L e2 := ⟨_, rfl⟩
    rw [← hz3] at hk3 HSK4
    have hz30 : 0 ≤ z3 := by omega
    have hz31 : z3 < L.length := hk3.2
    have ez3 : wrap64 (z3 + 1) = z3 + 1 := by unfold wrap64; omega
    have HL9 : Aside0 (((xs ++ E ++ nl ind (d + 1) ++ T ++ [58] ++ cb ind ++ T2).length : Int) + 200000 * ((L.length : Int) - e2) + 10000 ≤ 60000000000000 ∧ z2 < e2 ∧ e2 ≤ z3) := ⟨by
     have h1 := HL4.out
     have h2 := HK2.out
     have h3 := HCB.out
     refine ⟨?_, hok.1, hk3.1⟩
     rw [List.length_append, List.length_append, List.length_append]
     simp only [List.length_cons, List.length_nil]
     omega⟩
    have HV : Aside0 (fv L esc ind m' .val (skp L (skp L e1 + 1)) (d + 1) = some (e2, T2)) := ⟨by rw [← HZ2.out]; exact hv⟩
    have HZ3 := Aside0.mk hz3
    clear ho9 hg9 hok hle hk3 hv hz3 hz20
    go_wp2_with fail
    with_reducible refine (HSK4.out _ (HB.out _ _ HG9.out)).mono ?_
    rintro e w10 ⟨rfl, ⟨m10, rfl⟩⟩
    have hx3 := (HB.out _ _ (HG9.out.drewN m10)).at_ z3 hz30 hz31
    by_cases c1 : rd L z3 = 44
    ·have HIS2 := Aside0.mk (ka_next HI.out HQ.out HS.out HC2.out HV.out (by rw [← HZ3.out]; exact c1))
     rw [← HZ3.out] at HIS2
     rw [c1] at hx3
     have hin6 := HT.out.inside hz30 hz31 (by omega)
     have hk4 := skp_ge HT.out (x := z3 + 1) (by omega) (by omega)
     have HSK5 := Aside0.mk fun (W : World) (hB : Buf W ad c L) => HSKY.out W (z3 + 1) hB (by omega) (by omega)
     obtain ⟨z4, hz4⟩ : ∃ z4, z4 = skp L (z3 + 1) := ⟨_, rfl⟩
     rw [← hz4] at hk4 HIS2 HSK5
     have HK4 := Aside0.mk hk4
     clear c1 hin6 hk4 hz4
     go_wp2_with (first | ((with_reducible refine gate_builtin (b := .append) (xs := #[.tmp 106, .tmp 107]) rfl ?_); at_builtin; refine wpList_app rfl (.tmp 106) (.tmp 107) 22 rfl v9 _ (xs ++ E ++ nl ind (d + 1) ++ T ++ [58] ++ cb ind ++ T2) [44] rfl rfl (HO9.out.move (below_alloc (pw_below_drewN (Below.refl _ _) m10) _)) ?aS ?aB ?aN ?_; (case aS => (refine src_new (b := (w9.drewN m10).heap.size) ?_ rfl; exact ⟨_, blk_new (w9.drewN m10) _, rfl⟩)); (case aB => have h1 := HL9.out; simp only [List.length_append, List.length_cons, List.length_nil] at h1 ⊢; omega); (case aN => have := HSZ.out; have := HG9.out.size; simp; omega); intro v11 w11 ho hg; have HO11 := Aside0.mk ho; have HG11 := Aside0.mk (((Grew.refl (w9.drewN m10) v9).alloc _).trans hg); clear ho hg))
     with_reducible refine (HSK5.out _ (HB.out _ _ ((HG9.out.drewN m10).trans HG11.out))).mono ?_
     rintro e w12 ⟨rfl, ⟨m12, rfl⟩⟩
     go_wp2_with fail
     go_roundg g0
     case measure => omega
     case rel => exact ⟨z4, m', E ++ nl ind (d + 1) ++ T ++ [58] ++ cb ind ++ T2 ++ [44], rfl, ⟨by have := HK4.out; have := HY.out; have := HL9.out; have := HL4.out; have := HK2.out; omega, HK4.out.2, by have := HK4.out; have := HY.out; have := HL9.out; have := HL4.out; have := HK2.out; omega, HYB.out.2.1, by have := HK4.out; have := HY.out; have := HL9.out; have := HL4.out; have := HK2.out; omega⟩, HIS2, ⟨by have h1 := HL9.out; have h2 := HK4.out; unfold RoomI; simp only [List.length_append, List.length_cons, List.length_nil] at h1 ⊢; omega⟩, ⟨show Own N w11 v11 _ by have := HO11.out; simpa only [List.append_assoc] using this⟩, ⟨((HG9.out.drewN m10).trans HG11.out).drewN m12⟩⟩
    have f44 : (rd L z3 == 44) = false := beq_eq_false_iff_ne.mpr c1
    by_cases c2 : rd L z3 = 125
    ·have HRES := Aside0.mk (ka_end HI.out HQ.out HS.out HC2.out HV.out (by rw [← HZ3.out]; exact c2))
     rw [← HZ3.out] at HRES
     rw [c2] at hx3
     clear c1 c2 f44
     go_wp2_with fail
     with_reducible refine (HNL0.out _ _ _ (HO9.out.move (pw_below_drewN (Below.refl _ _) m10)) (HG9.out.drewN m10) (by have := HL9.out; omega)).mono ?_
     rintro e w13 ⟨v13, rfl, ho13, hg13⟩
     have HO13 := Aside0.mk ho13
     have HG13 := Aside0.mk ((HG9.out.drewN m10).trans hg13)
     clear ho13 hg13
     go_wp2_with (first | ((with_reducible refine gate_builtin (b := .append) (xs := #[.tmp 122, .tmp 123]) rfl ?_); at_builtin; refine wpList_app rfl (.tmp 122) (.tmp 123) 22 rfl v13 _ (xs ++ E ++ nl ind (d + 1) ++ T ++ [58] ++ cb ind ++ T2 ++ nl ind d) [125] rfl rfl (HO13.out.move (below_alloc (Below.refl _ _) _)) ?aS ?aB ?aN ?_; (case aS => (refine src_new (b := (w13).heap.size) ?_ rfl; exact ⟨_, blk_new (w13) _, rfl⟩)); (case aB => have h1 := HL9.out; have h2 := HN0.out; simp only [List.length_append, List.length_cons, List.length_nil] at h1 h2 ⊢; omega); (case aN => have := HSZ.out; have := HG13.out.size; simp; omega); intro v14 w14 ho hg; have HO14 := Aside0.mk ho; have HG14 := Aside0.mk (((Grew.refl (w13) v13).alloc _).trans hg); clear ho hg))
     refine bodyPost_ret (v := .tuple #[v14, .int .i64 (z3 + 1), .bool true]) ?_ rfl ?_
     ·simp [results, Tryd.results78, go_sem]
     rw [HRES.out]
     exact ⟨v14, rfl, by have := HO14.out; simpa only [List.append_assoc] using this, HG13.out.trans HG14.out⟩
    ·have HRES := Aside0.mk (ka_bad HI.out HQ.out HS.out HC2.out HV.out (by rw [← HZ3.out]; exact c1) (by rw [← HZ3.out]; exact c2))
     have f125' : (rd L z3 == 125) = false := beq_eq_false_iff_ne.mpr c2
     clear c1 c2
     go_wp2_with fail
     refine bodyPost_ret (v := .tuple #[v9, .int .i64 0, .bool false]) ?_ rfl ?_
     ·simp [results, Tryd.results78, go_sem]
     rw [HRES.out]
     exact ⟨v9, v9, rfl, HG9.out.drewN m10⟩
end
end Go.Proofs.YtbikiibpjdiaaaaDoor.Err
/- formatValue: a value is taken and written as the plain function says. -/
namespace Go.Proofs.YtbikiibpjdiaaaaDoor.Err
open Go.RowKit Go.Proofs.YtbikiibpjdiaaaaDoorW.PrintWords Go.Proofs.YtbikiibpjdiaaaaDoorW.PrintLast Go.Proofs.YtbikiibpjdiaaaaDoorW.PrintMore
open Go.Proofs.YtbikiibpjdiaaaaDoor.Dig Go.Proofs.YtbikiibpjdiaaaaDoor.Tab Go.Proofs.YtbikiibpjdiaaaaDoor.QF Go.Proofs.YtbikiibpjdiaaaaDoor.QN
set_option linter.unusedVariables false
section
variable {N : Nat} {w w' : World} {v u : Value} {ad : Addr} {c : Nat} {L xs E T : List Int} {ip : Value} {ind : Ind} {esc : Bool} {x y e : Int} {n m d : Nat}
theorem scan_call (hB : Buf w ad c L) (hG : Glob w) (h0 : 0 ≤ x) (h1 : x < (L.length : Int) - 1) {m k : Nat} (hm : m = L.length - 1 - x.toNat) (hk : k = c - x.toNat) :
  Calls Tryd.prog 82 #[.slice (some (ad.add x.toNat)) m k] w fun e w' => e = .returned (.tuple #[.int .i64 ((scanNum (rest L x)).1 : Nat), .int .u8 ((scanNum (rest L x)).2 : Nat)]) ∧ Drawn0 w w' := by
 have hT := hB.txt
 have hl : (rest L x).length = m := by have := rest_len (L := L) h0 (by omega); omega
 have hcap := hB.cap
 have hR := ReadsOf.drop_ (c := c) (ReadsOf.take_ (Kd.reads_of_C (enc := Value.int .u8) (d := (0 : Int)) (h1 := fun _ => rfl) hB.C) (L.length - 1) (by omega)) x.toNat (by omega) (by omega)
 rw [if_neg (by omega)] at hR
 have hb : Bytes (rest L x) := by
  intro y hy
  unfold rest at hy
  obtain ⟨k, hk2, rfl⟩ := List.getElem_of_mem (List.mem_of_mem_take (List.mem_of_mem_drop hy))
  have := hT.bytes (k : Int) (by omega) (by omega)
  obtain ⟨_, e⟩ := rd_get L (k : Int) (by omega) (by omega)
  rw [e] at this
  simpa using this
 have hf := pack_scan (rest L x) hb (by have := hT.small; omega) 70000021 (by omega)
 unfold z2 at hf
 have hc := gojsonnum_Scan.calls 70000021 (some (ad.add x.toNat)) k (rest L x) _ _ w (by rw [hl, hm]; exact Kd.C_of_reads (h1 := fun _ => rfl) hR) (by rw [hl]; omega) hG hf
 rw [hl] at hc
 exact hc
theorem fv_val (L : List Int) (esc : Bool) (ind : Ind) (n : Nat) (x : Int) (d : Nat) : fv L esc ind (n + 1) .val x d =
  if rd L x = 123 then (if d + 1 > deep then none else if rd L (skp L (x + 1)) = 125 then some (skp L (x + 1) + 1, [123, 125]) else (fv L esc ind n .key (skp L (x + 1)) (d + 1)).map fun r => (r.1, 123 :: r.2))
  else if rd L x = 91 then (if d + 1 > deep then none else if rd L (skp L (x + 1)) = 93 then some (skp L (x + 1) + 1, [91, 93]) else (fv L esc ind n .item (skp L (x + 1)) (d + 1)).map fun r => (r.1, 91 :: r.2))
  else if rd L x = 34 then fstr L esc x
  else if rd L x = 116 then flit L x lTrue
  else if rd L x = 102 then flit L x lFalse
  else if rd L x = 110 then flit L x lNull
  else if rd L x = 45 ∨ isDig (rd L x) then fnum L x
  else none := rfl
theorem FmtAns.of_drew {r : Option (Int × List Int)} {e : Ending} {m : Nat} (h : FmtAns N (w.drewN m) v xs r e w') : FmtAns N w v xs r e w' := by
 cases r with
 | none => obtain ⟨v', u, h1, h2⟩ := h; exact ⟨v', u, h1, ((Grew.refl w v).drewN m).trans h2⟩
 | some p => obtain ⟨v', h1, h2, h3⟩ := h; exact ⟨v', h1, h2, ((Grew.refl w v).drewN m).trans h3⟩
set_option maxRecDepth 100000 in
set_option maxHeartbeats 16000000 in
/-- What a function answers that calls another one and hands on its three answers. -/
theorem formatValue : ∀ n : Nat, ValC N ad c L esc ip ind n := by
 intro n
 induction n using Nat.strongRecOn with
 | ind n ih =>
  intro w v xs x d hC ho hr h0 h1 hd hn
  cases n with
  | zero => omega
  | succ n =>
   have hxy := hC.buf.at_ x h0 h1
   have hby := hC.buf.byte x h0 h1
   by_cases c123 : rd L x = 123
   ·have HCALL : Aside0 (Calls Tryd.prog 78 #[v, .slice (some ad) L.length c, .int .i64 x, .bool esc, ip, .int .i64 d] w (FmtAns N w v xs (fv L esc ind (n + 1) .val x d))) := ⟨by
     rcases hC.fmt with ⟨h2, h3⟩ | ⟨g, p, i, h2, h3, _⟩
     ·exact formatObject_nil h2 h3 (fun k hk => ih k (by omega)) hC ho hr h0 h1 hd (by omega) c123
     ·exact formatObject_ptr ⟨g, h2⟩ (by rw [h3]; simp) (fun k hk => ih k (by omega)) hC ho hr h0 h1 hd (by omega) c123⟩
    rw [c123] at hxy
    obtain ⟨D, hD⟩ : ∃ D : Int, D = (d : Int) := ⟨_, rfl⟩
    rw [← hD] at HCALL ⊢
    generalize fv L esc ind (n + 1) .val x d = r at HCALL ⊢
    clear ih hC ho hr hd hn hby hD
    go_enter Tryd.func73, Tryd.ntmps73
    go_wp2_with fail
    with_reducible refine HCALL.out.mono ?_
    rintro e w1 hans
    rcases r with _ | ⟨e1, T⟩
    ·obtain ⟨v1, u1, rfl, hg⟩ := hans
     have HG := Aside0.mk hg
     clear hg
     go_wp2_with fail
     refine bodyPost_ret (v := .tuple #[v1, .int .i64 0, .bool false]) ?_ rfl ?_
     ·simp [results, Tryd.results73, go_sem]
     exact ⟨v1, u1, rfl, HG.out⟩
    ·obtain ⟨v1, rfl, ho1, hg1⟩ := hans
     have HG := Aside0.mk (And.intro ho1 hg1)
     clear ho1 hg1
     go_wp2_with fail
     refine bodyPost_ret (v := .tuple #[v1, .int .i64 e1, .bool true]) ?_ rfl ?_
     ·simp [results, Tryd.results73, go_sem]
     exact ⟨v1, rfl, HG.out.1, HG.out.2⟩
   by_cases c91 : rd L x = 91
   ·have HCALL : Aside0 (Calls Tryd.prog 79 #[v, .slice (some ad) L.length c, .int .i64 x, .bool esc, ip, .int .i64 d] w (FmtAns N w v xs (fv L esc ind (n + 1) .val x d))) := ⟨formatArray (fun k hk => ih k (by omega)) hC ho hr h0 h1 hd (by omega) c91⟩
    rw [c91] at hxy
    obtain ⟨D, hD⟩ : ∃ D : Int, D = (d : Int) := ⟨_, rfl⟩
    rw [← hD] at HCALL ⊢
    generalize fv L esc ind (n + 1) .val x d = r at HCALL ⊢
    clear ih hC ho hr hd hn hby hD
    go_enter Tryd.func73, Tryd.ntmps73
    go_wp2_with fail
    with_reducible refine HCALL.out.mono ?_
    rintro e w1 hans
    rcases r with _ | ⟨e1, T⟩
    ·obtain ⟨v1, u1, rfl, hg⟩ := hans
     have HG := Aside0.mk hg
     clear hg
     go_wp2_with fail
     refine bodyPost_ret (v := .tuple #[v1, .int .i64 0, .bool false]) ?_ rfl ?_
     ·simp [results, Tryd.results73, go_sem]
     exact ⟨v1, u1, rfl, HG.out⟩
    ·obtain ⟨v1, rfl, ho1, hg1⟩ := hans
     have HG := Aside0.mk (And.intro ho1 hg1)
     clear ho1 hg1
     go_wp2_with fail
     refine bodyPost_ret (v := .tuple #[v1, .int .i64 e1, .bool true]) ?_ rfl ?_
     ·simp [results, Tryd.results73, go_sem]
     exact ⟨v1, rfl, HG.out.1, HG.out.2⟩
   by_cases c34 : rd L x = 34
   ·have HCALL : Aside0 (Calls Tryd.prog 80 #[v, .slice (some ad) L.length c, .int .i64 x, .bool esc] w (FmtAns N w v xs (fv L esc ind (n + 1) .val x d))) := ⟨by
     rw [fv_val, if_neg c123, if_neg c91, if_pos c34]
     exact formatString hC ho hr h0 h1 c34⟩
    rw [c34] at hxy
    obtain ⟨D, hD⟩ : ∃ D : Int, D = (d : Int) := ⟨_, rfl⟩
    rw [← hD]
    generalize fv L esc ind (n + 1) .val x d = r at HCALL ⊢
    clear ih hC ho hr hd hn hby hD
    go_enter Tryd.func73, Tryd.ntmps73
    go_wp2_with fail
    with_reducible refine HCALL.out.mono ?_
    rintro e w1 hans
    rcases r with _ | ⟨e1, T⟩
    ·obtain ⟨v1, u1, rfl, hg⟩ := hans
     have HG := Aside0.mk hg
     clear hg
     go_wp2_with fail
     refine bodyPost_ret (v := .tuple #[v1, .int .i64 0, .bool false]) ?_ rfl ?_
     ·simp [results, Tryd.results73, go_sem]
     exact ⟨v1, u1, rfl, HG.out⟩
    ·obtain ⟨v1, rfl, ho1, hg1⟩ := hans
     have HG := Aside0.mk (And.intro ho1 hg1)
     clear ho1 hg1
     go_wp2_with fail
     refine bodyPost_ret (v := .tuple #[v1, .int .i64 e1, .bool true]) ?_ rfl ?_
     ·simp [results, Tryd.results73, go_sem]
     exact ⟨v1, rfl, HG.out.1, HG.out.2⟩
   by_cases c116 : rd L x = 116
   ·have HCALL : Aside0 (Calls Tryd.prog 81 #[v, .slice (some ad) L.length c, .int .i64 x, .string ⟨#[116, 114, 117, 101]⟩] w (FmtAns N w v xs (fv L esc ind (n + 1) .val x d))) := ⟨by
     rw [fv_val, if_neg c123, if_neg c91, if_neg c34, if_pos c116]
     exact formatLiteral hC ho hr h0 h1 ⟨#[116, 114, 117, 101]⟩ lit_true (by decide)⟩
    rw [c116] at hxy
    obtain ⟨D, hD⟩ : ∃ D : Int, D = (d : Int) := ⟨_, rfl⟩
    rw [← hD]
    generalize fv L esc ind (n + 1) .val x d = r at HCALL ⊢
    clear ih hC ho hr hd hn hby hD
    go_enter Tryd.func73, Tryd.ntmps73
    go_wp2_with fail
    with_reducible refine HCALL.out.mono ?_
    rintro e w1 hans
    rcases r with _ | ⟨e1, T⟩
    ·obtain ⟨v1, u1, rfl, hg⟩ := hans
     have HG := Aside0.mk hg
     clear hg
     go_wp2_with fail
     refine bodyPost_ret (v := .tuple #[v1, .int .i64 0, .bool false]) ?_ rfl ?_
     ·simp [results, Tryd.results73, go_sem]
     exact ⟨v1, u1, rfl, HG.out⟩
    ·obtain ⟨v1, rfl, ho1, hg1⟩ := hans
     have HG := Aside0.mk (And.intro ho1 hg1)
     clear ho1 hg1
     go_wp2_with fail
     refine bodyPost_ret (v := .tuple #[v1, .int .i64 e1, .bool true]) ?_ rfl ?_
     ·simp [results, Tryd.results73, go_sem]
     exact ⟨v1, rfl, HG.out.1, HG.out.2⟩
   by_cases c102 : rd L x = 102
   ·have HCALL : Aside0 (Calls Tryd.prog 81 #[v, .slice (some ad) L.length c, .int .i64 x, .string ⟨#[102, 97, 108, 115, 101]⟩] w (FmtAns N w v xs (fv L esc ind (n + 1) .val x d))) := ⟨by
     rw [fv_val, if_neg c123, if_neg c91, if_neg c34, if_neg c116, if_pos c102]
     exact formatLiteral hC ho hr h0 h1 ⟨#[102, 97, 108, 115, 101]⟩ lit_false (by decide)⟩
    rw [c102] at hxy
    obtain ⟨D, hD⟩ : ∃ D : Int, D = (d : Int) := ⟨_, rfl⟩
    rw [← hD]
    generalize fv L esc ind (n + 1) .val x d = r at HCALL ⊢
    clear ih hC ho hr hd hn hby hD
    go_enter Tryd.func73, Tryd.ntmps73
    go_wp2_with fail
    with_reducible refine HCALL.out.mono ?_
    rintro e w1 hans
    rcases r with _ | ⟨e1, T⟩
    ·obtain ⟨v1, u1, rfl, hg⟩ := hans
     have HG := Aside0.mk hg
     clear hg
     go_wp2_with fail
     refine bodyPost_ret (v := .tuple #[v1, .int .i64 0, .bool false]) ?_ rfl ?_
     ·simp [results, Tryd.results73, go_sem]
     exact ⟨v1, u1, rfl, HG.out⟩
    ·obtain ⟨v1, rfl, ho1, hg1⟩ := hans
     have HG := Aside0.mk (And.intro ho1 hg1)
     clear ho1 hg1
     go_wp2_with fail
     refine bodyPost_ret (v := .tuple #[v1, .int .i64 e1, .bool true]) ?_ rfl ?_
     ·simp [results, Tryd.results73, go_sem]
     exact ⟨v1, rfl, HG.out.1, HG.out.2⟩
   by_cases c110 : rd L x = 110
   ·have HCALL : Aside0 (Calls Tryd.prog 81 #[v, .slice (some ad) L.length c, .int .i64 x, .string ⟨#[110, 117, 108, 108]⟩] w (FmtAns N w v xs (fv L esc ind (n + 1) .val x d))) := ⟨by
     rw [fv_val, if_neg c123, if_neg c91, if_neg c34, if_neg c116, if_neg c102, if_pos c110]
     exact formatLiteral hC ho hr h0 h1 ⟨#[110, 117, 108, 108]⟩ lit_null (by decide)⟩
    rw [c110] at hxy
    obtain ⟨D, hD⟩ : ∃ D : Int, D = (d : Int) := ⟨_, rfl⟩
    rw [← hD]
    generalize fv L esc ind (n + 1) .val x d = r at HCALL ⊢
    clear ih hC ho hr hd hn hby hD
    go_enter Tryd.func73, Tryd.ntmps73
    go_wp2_with fail
    with_reducible refine HCALL.out.mono ?_
    rintro e w1 hans
    rcases r with _ | ⟨e1, T⟩
    ·obtain ⟨v1, u1, rfl, hg⟩ := hans
     have HG := Aside0.mk hg
     clear hg
     go_wp2_with fail
     refine bodyPost_ret (v := .tuple #[v1, .int .i64 0, .bool false]) ?_ rfl ?_
     ·simp [results, Tryd.results73, go_sem]
     exact ⟨v1, u1, rfl, HG.out⟩
    ·obtain ⟨v1, rfl, ho1, hg1⟩ := hans
     have HG := Aside0.mk (And.intro ho1 hg1)
     clear ho1 hg1
     go_wp2_with fail
     refine bodyPost_ret (v := .tuple #[v1, .int .i64 e1, .bool true]) ?_ rfl ?_
     ·simp [results, Tryd.results73, go_sem]
     exact ⟨v1, rfl, HG.out.1, HG.out.2⟩
   have f1 : (rd L x == 123) = false := beq_eq_false_iff_ne.mpr c123
   have f2 : (rd L x == 91) = false := beq_eq_false_iff_ne.mpr c91
   have f3 : (rd L x == 34) = false := beq_eq_false_iff_ne.mpr c34
   have f4 : (rd L x == 116) = false := beq_eq_false_iff_ne.mpr c116
   have f5 : (rd L x == 102) = false := beq_eq_false_iff_ne.mpr c102
   have f6 : (rd L x == 110) = false := beq_eq_false_iff_ne.mpr c110
   have hval : fv L esc ind (n + 1) .val x d = if rd L x = 45 ∨ isDig (rd L x) then fnum L x else none := by
    rw [fv_val, if_neg c123, if_neg c91, if_neg c34, if_neg c116, if_neg c102, if_neg c110]
   by_cases hnum : rd L x = 45 ∨ isDig (rd L x)
   ·rw [if_pos hnum] at hval
    rw [hval]
    have hin := hC.txt.inside h0 h1 (by unfold isDig at hnum; omega)
    have HSC : Aside0 (Calls Tryd.prog 82 #[.slice (some (ad.add x.toNat)) (L.length - 1 - x.toNat) (c - x.toNat)] w fun e w' => e = .returned (.tuple #[.int .i64 ((scanNum (rest L x)).1 : Nat), .int .u8 ((scanNum (rest L x)).2 : Nat)]) ∧ Drawn0 w w') := ⟨scan_call hC.buf hC.tab h0 hin rfl rfl⟩
    have HTX := Aside0.mk hC.txt
    have HBF : Aside0 (∀ m, Buf (w.drewN m) ad c L) := ⟨fun m => hC.buf.drewN m⟩
    have HO2 : Aside0 (∀ m, Own N (w.drewN m) v xs) := ⟨fun m => ho⟩
    have HR := Aside0.mk hr
    have HSZ := Aside0.mk hC.size
    have hsm := hC.txt.small
    have hcap := hC.buf.cap
    have HN := Aside0.mk hnum
    have g1 : (x ≤ (L.length : Int) - 1) = True := eq_true (by omega)
    have g2 : ((L.length : Int) - 1 ≤ (c : Int)) = True := eq_true (by omega)
    have g3 : x.toNat < c := by omega
    have en : wrap64 ((L.length : Int) - 1) = (L.length : Int) - 1 := by unfold wrap64; omega
    have el : ((L.length : Int) - 1).toNat = L.length - 1 := by omega
    have f7 : (rd L x == 45) = true ∨ (rd L x == 45) = false ∧ decide ((rd L x - 48) % 256 ≤ 9) = true := by
     rcases hnum with h | h
     ·exact .inl (beq_iff_eq.mpr h)
     ·by_cases h2 : rd L x = 45
      ·exact .inl (beq_iff_eq.mpr h2)
      ·exact .inr ⟨beq_eq_false_iff_ne.mpr h2, decide_eq_true (by unfold isDig at h; omega)⟩
    obtain ⟨D, hD⟩ : ∃ D : Int, D = (d : Int) := ⟨_, rfl⟩
    rw [← hD]
    have hfn : fnum L x = if (scanNum (rest L x)).2 = 0 then some (x + (scanNum (rest L x)).1, seg L x (x + (scanNum (rest L x)).1)) else none := rfl
    have hle : (scanNum (rest L x)).2 = 0 → x + ((scanNum (rest L x)).1 : Int) < L.length := fun h2 => by
     rw [if_pos h2] at hfn
     exact (fnum_ok (q := fun s => s) hC.txt h0 h1 hnum hfn).2.1
    have hk3 := kind_le (rest L x)
    generalize (scanNum (rest L x)).1 = a at hfn hle HSC
    generalize (scanNum (rest L x)).2 = b at hfn hle HSC hk3
    clear ih hC ho hr hd hn hby hval hnum hD
    by_cases hb : b = 0
    ·rw [if_pos hb] at hfn
     have hle2 := hle hb
     subst hb
     obtain ⟨A, hA⟩ : ∃ A : Int, A = (a : Int) := ⟨_, rfl⟩
     rw [← hA] at hfn HSC hle2
     obtain ⟨e, he⟩ : ∃ e, e = x + A := ⟨_, rfl⟩
     have ee : wrap64 (x + A) = e := by unfold wrap64; omega
     have eA : wrap64 A = A := by unfold wrap64; omega
     rw [← he] at hfn hle2
     have HE : Aside0 (x ≤ e ∧ e ≤ (L.length : Int) ∧ (L.length : Int) ≤ 70000001) := ⟨by omega, by omega, by omega⟩
     have g4 : (x ≤ e) = True := eq_true (by omega)
     have g5 : (e ≤ (c : Int)) = True := eq_true (by omega)
     rw [hfn]
     clear hle hk3 hfn hA he hle2
     rcases f7 with f7 | ⟨f7, f8⟩
     all_goals
      go_enter Tryd.func73, Tryd.ntmps73
      go_wp2_with fail
      with_reducible refine HSC.out.mono ?_
      rintro _ w2 ⟨rfl, ⟨m1, rfl⟩⟩
      go_wp2_with (first | ((with_reducible refine gate_builtin (b := .append) (xs := #[.tmp 47, .tmp 51]) rfl ?_); at_builtin; refine wpList_app rfl (.tmp 47) (.tmp 51) 22 rfl v _ xs (seg L x e) rfl rfl (HO2.out m1) ?aS ?aB ?aN ?_; (case aS => exact src_seg (HBF.out m1) h0 (by have := HE.out; omega) (by have := HE.out; omega) (by have := HE.out; omega)); (case aB => have := HE.out; have := HR.out; unfold Room at this; rw [seg_len x e h0 (by omega) (by omega)]; omega); (case aN => exact HSZ.out); intro v1 w1 ho1 hg1; have HO1 := Aside0.mk ho1; have HG1 := Aside0.mk hg1; clear ho1 hg1))
      refine bodyPost_ret (v := .tuple #[v1, .int .i64 e, .bool true]) ?_ rfl ?_
      ·simp [results, Tryd.results73, go_sem]
      exact ⟨v1, rfl, HO1.out, ((Grew.refl w v).drewN m1).trans HG1.out⟩
    ·rw [if_neg hb] at hfn
     rw [hfn]
     obtain ⟨B, hB⟩ : ∃ B : Int, B = (b : Int) := ⟨_, rfl⟩
     rw [← hB] at HSC
     have fB : (B == 0) = false := beq_eq_false_iff_ne.mpr (by omega)
     clear hle hk3 hfn hb hB
     rcases f7 with f7 | ⟨f7, f8⟩
     all_goals
      go_enter Tryd.func73, Tryd.ntmps73
      go_wp2_with fail
      with_reducible refine HSC.out.mono ?_
      rintro _ w2 ⟨rfl, ⟨m1, rfl⟩⟩
      go_wp2_with fail
      refine bodyPost_ret (v := .tuple #[v, .int .i64 0, .bool false]) ?_ rfl ?_
      ·simp [results, Tryd.results73, go_sem]
      exact ⟨v, v, rfl, (Grew.refl w v).drewN m1⟩
   ·rw [if_neg hnum] at hval
    rw [hval]
    have f7 : (rd L x == 45) = false := beq_eq_false_iff_ne.mpr (fun h => hnum (.inl h))
    have f9 : decide ((rd L x - 48) % 256 ≤ 9) = false := decide_eq_false (by intro h; exact hnum (.inr (by unfold isDig; omega)))
    clear ih hC ho hr hd hn hby hval hnum
    go_enter Tryd.func73, Tryd.ntmps73
    go_wp2_with fail
    refine bodyPost_ret (v := .tuple #[v, .int .i64 0, .bool false]) ?_ rfl ?_
    ·simp [results, Tryd.results73, go_sem]
    exact ⟨v, v, rfl, Grew.refl _ _⟩
end
end Go.Proofs.YtbikiibpjdiaaaaDoor.Err
