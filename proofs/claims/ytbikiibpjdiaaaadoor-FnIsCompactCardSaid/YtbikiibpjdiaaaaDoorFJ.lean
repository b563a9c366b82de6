/- Indenting: appendIndent, Indent, and the thin package's door. -/
import Derived.Test.YtbikiibpjdiaaaaDoorFG
import Derived.Test.YtbikiibpjdiaaaaDoorSB
import Derived.Lib.MinMax
namespace Go.Proofs.YtbikiibpjdiaaaaDoor.Err
open Go.RowKit Go.Proofs.YtbikiibpjdiaaaaDoorW.PrintWords Go.Proofs.YtbikiibpjdiaaaaDoorW.PrintLast Go.Proofs.YtbikiibpjdiaaaaDoorW.PrintMore
open Go.Proofs.YtbikiibpjdiaaaaDoor.Dig Go.Proofs.YtbikiibpjdiaaaaDoor.Tab Go.Proofs.YtbikiibpjdiaaaaDoor.QF Go.Proofs.YtbikiibpjdiaaaaDoor.QM
set_option linter.unusedVariables false
section
variable {N : Nat} {w w' w0 : World} {v u : Value} {A A0 A1 : Option Addr} {c c0 c1 : Nat} {xs l T : List Int} {esc tr : Bool} {p i : ByteArray} {e : Int} {ind : Ind}
/-- What is written of a value, with the white space behind it if so asked. -/
def ti (l : List Int) (esc tr : Bool) (p i : ByteArray) : Option (List Int) := (fj (l ++ [0]) esc (some (sb p, sb i))).map fun r => r.2 ++ if tr = true then seg (l ++ [0]) r.1 l.length else []
theorem seg_drop (h0 : 0 ≤ e) (h1 : e ≤ l.length) : seg (l ++ [0]) e l.length = l.drop e.toNat := by
 unfold seg
 rw [Int.toNat_natCast, List.take_left']
 rfl
theorem fj_end (hT : Txt (l ++ [0])) (h : fj (l ++ [0]) esc ind = some (e, T)) : 0 < e ∧ e ≤ l.length := by
 have hlen : ((l ++ [(0 : Int)]).length : Int) = l.length + 1 := by rw [List.length_append]; rfl
 have hpos := hT.pos
 have hk := skp_ge hT (x := 0) (by omega) (by omega)
 unfold fj at h
 split at h
 ·cases h
 rename_i e1 T1 hv
 have hok := fv_ok (q := fun s => s) hT _ _ _ _ _ _ (by omega) hk.2 hv
 split at h
 ·cases h
  omega
 ·cases h
/-- Bytes behind nothing. -/
theorem src_zero {w : World} (A : Option Addr) (k : Nat) : Src Tryd.prog 1 22 (.slice A 0 k) ([] : List Int).length (nums .u8 []) w := by
 cases A with
 | none => exact src_none k
 | some a => exact src_slice (a := a) (m := 0) (c := k) (ys := []) rfl (fun j z hz => by simp [nums] at hz)
set_option maxRecDepth 100000 in
set_option maxHeartbeats 16000000 in
theorem appendIndent (h : Dr N w v xs A c l) (hfar : ∀ a : Addr, A = some a → some a.block ≠ v.ownBlock) (hp : p.size ≤ 8) (hi : i.size ≤ 8) : Calls Tryd.prog 49 #[v, .slice A l.length c, .string p, .string i, .bool esc, .bool tr] w (DoorAns N w v xs (ti l esc tr p i)) := by
 have HD := Aside0.mk h
 obtain ⟨r, hr⟩ : ∃ r, r = fj (l ++ [0]) esc (some (sb p, sb i)) := ⟨_, rfl⟩
 have HRR := Aside0.mk hr
 have HTI : Aside0 (ti l esc tr p i = r.map fun r => r.2 ++ if tr = true then seg (l ++ [0]) r.1 l.length else []) := ⟨by rw [hr]; rfl⟩
 have HP := Aside0.mk (And.intro hp hi)
 have HT := Aside0.mk (txt_of h.byt h.len)
 have HFAR := Aside0.mk hfar
 clear h hr hp hi hfar
 go_enter Tryd.func49, Tryd.ntmps49
 go_wp2_with (first | ((with_reducible refine gate_builtin (b := .append) (xs := #[.tmp 18, .tmp 19]) rfl ?_); at_builtin; refine wpList_app (N := w.heap.size) rfl (.tmp 18) (.tmp 19) 22 rfl (.slice (some ⟨w.heap.size, 0, none⟩) 0 0) _ [] l rfl rfl ?aO ?aS ?aB ?aN ?_; (case aO => exact World.ownsRow_made w #[] 0 (Nat.le_refl _) (Nat.zero_le _) rfl); (case aS => exact src_C (Kd.C_below HD.out.src (below_alloc (Below.refl _ _) _))); (case aB => have := HD.out.len; simp; omega); (case aN => simp); intro v1 w1 ho hg; have HO1 := Aside0.mk ho; have HG1 := Aside0.mk hg; clear ho hg) | ((with_reducible refine gate_builtin (b := .append) (xs := #[.tmp 20, .tmp 21]) rfl ?_); at_builtin; refine wpList_app (N := w.heap.size) rfl (.tmp 20) (.tmp 21) 22 rfl v1 _ ([] ++ l) [0] rfl rfl (HO1.out.move (below_alloc (Below.refl _ _) _)) ?aS ?aB ?aN ?_; (case aS => (refine src_new (b := w1.heap.size) ?_ rfl; exact ⟨_, blk_new w1 _, rfl⟩)); (case aB => have := HD.out.len; simp; omega); (case aN => have := HG1.out.size; simp at this ⊢; omega); intro v2 w2 ho hg; have HO2 := Aside0.mk ho; have HG2 := Aside0.mk (((Grew.refl w1 v1).alloc _).trans hg); clear ho hg))
 have HB2 := Aside0.mk (input_below HG1.out HG2.out)
 have HB3 := Aside0.mk (below_alloc HB2.out (.cells #[.string p, .string i] 80))
 have HO3 : Aside0 (Own w.heap.size (w2.alloc (.cells #[.string p, .string i] 80)) v2 (l ++ [0])) := ⟨by have := HO2.out.move (below_alloc (Below.refl _ _) (.cells #[.string p, .string i] 80)); simpa using this⟩
 obtain ⟨ad, cc, rfl, hctx⟩ := ctx_of HD.out HB3.out HO3.out (ip := .pointer (some ⟨w2.heap.size, 0, none⟩)) (ind := some (sb p, sb i)) (.inr ⟨w2.heap.size, p, i, rfl, rfl, blk_new w2 _, (fun e => by have h1 := (HD.out.own.lt _ e).2; have := HB2.out.size; omega), HP.out.1, HP.out.2⟩)
 have HJ := Aside0.mk (formatJSON (esc := esc) hctx (HD.out.own.move HB3.out) (room_of HD.out.xln HD.out.len))
 rw [← HRR.out] at HJ
 clear hctx
 go_wp2_with fail
 with_reducible refine HJ.out.mono ?_
 rintro e w3 hans
 rcases r with _ | ⟨e1, T⟩
 ·obtain ⟨v3, u3, rfl, hg⟩ := hans
  have HG := Aside0.mk ((Grew.below HB3.out).trans hg)
  clear hg
  go_wp2_with fail
  with_reducible refine (formatErr _ _ _ _).mono ?_
  rintro e w4 ⟨⟨g, rfl⟩, hb4⟩
  have HB4 := Aside0.mk hb4
  clear hb4
  go_wp2_with fail
  refine bodyPost_ret (v := .tuple #[v, .iface 95 (.pointer (some ⟨g, 0, none⟩))]) ?_ rfl ?_
  ·simp [results, Tryd.results49, go_sem]
  rw [HTI.out]
  exact ⟨v, u3, g, rfl, HG.out.trans (Grew.below HB4.out)⟩
 ·obtain ⟨v3, rfl, ho3, hg⟩ := hans
  have HO3 := Aside0.mk ho3
  have HG := Aside0.mk ((Grew.below HB3.out).trans hg)
  have hend := fj_end HT.out HRR.out.symm
  have hTl := fj_len HT.out (ind := some (sb p, sb i)) (fun p' i' h => by cases h; have := HP.out; rw [sb_len, sb_len]; exact this) HRR.out.symm
  have HTL : Aside0 (T.length + 70000000 ≤ 60000000000000) := ⟨by have := HD.out.len; rw [List.length_append, List.length_singleton] at hTl; omega⟩
  clear hg ho3 hTl
  cases tr with
  | false =>
   clear hend
   go_wp2_with fail
   refine bodyPost_ret (v := .tuple #[v3, .nilIface]) ?_ rfl ?_
   ·simp [results, Tryd.results49, go_sem]
   rw [HTI.out]
   exact ⟨v3, rfl, by have := HO3.out; simpa using this, HG.out⟩
  | true =>
   obtain ⟨e0, e2⟩ := hend
   have hcap := HD.out.cap
   have HSEG := Aside0.mk (seg_drop (l := l) (e := e1) (by omega) e2)
   have HDL : Aside0 ((l.drop e1.toNat).length = l.length - e1.toNat) := ⟨List.length_drop⟩
   have HDB : Aside0 ((xs ++ T).length + (l.drop e1.toNat).length ≤ 70368744177664) := ⟨by have := HTL.out; have := HD.out.len; have := HD.out.xln; rw [List.length_append, List.length_drop]; omega⟩
   have g0 : (0 ≤ e1) = True := eq_true (by omega)
   have g2 : (e1 ≤ (l.length : Int)) = True := eq_true e2
   have hsrc0 : Kd.C (Kd.int .u8) w3 A l.length l := C_grown HD.out.src HG.out.1 HFAR.out
   have hR := Kd.reads_of_C (enc := Value.int .u8) (d := (0 : Int)) (h1 := fun _ => rfl) hsrc0
   obtain ⟨ad0, rfl, _⟩ := hR.2.2 (by omega)
   by_cases g3 : e1.toNat < c
   ·have hRd := ReadsOf.drop_ (c := c) hR e1.toNat (by omega) hcap
    rw [if_neg (by omega)] at hRd
    have HSRC : Aside0 (Src Tryd.prog 1 22 (.slice (some (ad0.add e1.toNat)) (l.length - e1.toNat) (c - e1.toNat)) (l.drop e1.toNat).length (nums .u8 (l.drop e1.toNat)) w3) := ⟨by
     have := src_C (w := w3) (l := l.drop e1.toNat) (A := some (ad0.add e1.toNat)) (k := c - e1.toNat) (by rw [List.length_drop]; exact Kd.C_of_reads (h1 := fun _ => rfl) hRd)
     rw [List.length_drop] at this ⊢
     exact this⟩
    clear hR hRd hsrc0 e0 e2 hcap
    go_wp2_with (first | ((with_reducible refine gate_builtin (b := .append) (xs := #[.tmp 41, .tmp 44]) rfl ?_); at_builtin; refine wpList_app (N := N) rfl (.tmp 41) (.tmp 44) 22 rfl v3 _ (xs ++ T) (l.drop e1.toNat) rfl rfl HO3.out HSRC.out HDB.out ?aN ?_; (case aN => have := HD.out.size; have := HG.out.size; omega); intro v4 w4 ho hg; have HO4 := Aside0.mk ho; have HG4 := Aside0.mk (HG.out.trans hg); clear ho hg))
    refine bodyPost_ret (v := .tuple #[v4, .nilIface]) ?_ rfl ?_
    ·simp [results, Tryd.results49, go_sem]
    rw [HTI.out]
    exact ⟨v4, rfl, by have := HO4.out; rw [← HSEG.out] at this; simpa using this, HG4.out⟩
   ·obtain rfl : c = l.length := by omega
    obtain rfl : e1 = (l.length : Int) := by omega
    have HSG : Aside0 (seg (l ++ [0]) (l.length : Int) l.length = []) := ⟨by rw [HSEG.out, Int.toNat_natCast, List.drop_length]⟩
    clear hR hsrc0 e0 e2 hcap g3
    go_wp2_with (first | ((with_reducible refine gate_builtin (b := .append) (xs := #[.tmp 41, .tmp 44]) rfl ?_); at_builtin; refine wpList_app (N := N) rfl (.tmp 41) (.tmp 44) 22 rfl v3 _ (xs ++ T) [] rfl rfl HO3.out (src_zero _ _) ?aB ?aN ?_; (case aB => have := HDB.out; simp only [List.length_nil]; omega); (case aN => have := HD.out.size; have := HG.out.size; omega); intro v4 w4 ho hg; have HO4 := Aside0.mk ho; have HG4 := Aside0.mk (HG.out.trans hg); clear ho hg))
    refine bodyPost_ret (v := .tuple #[v4, .nilIface]) ?_ rfl ?_
    ·simp [results, Tryd.results49, go_sem]
    rw [HTI.out]
    exact ⟨v4, rfl, by have := HO4.out; show Own N _ v4 (xs ++ (T ++ _)); rw [if_pos trivial]; show Own N _ v4 (xs ++ (T ++ seg (l ++ [0]) (l.length : Int) l.length)); rw [HSG.out]; simpa using this, HG4.out⟩
set_option maxRecDepth 100000 in
set_option maxHeartbeats 16000000 in
theorem indentDoor (h : Dr N w v xs A c l) (hfar : ∀ a : Addr, A = some a → some a.block ≠ v.ownBlock) (hp : p.size ≤ 8) (hi : i.size ≤ 8) : Calls Tryd.prog 36 #[v, .slice A l.length c, .string p, .string i, .bool esc, .bool tr] w (DoorAns N w v xs (ti l esc tr p i)) := by
 have HA := Aside0.mk (appendIndent (esc := esc) (tr := tr) h hfar hp hi)
 clear h hfar hp hi
 obtain ⟨r, hr⟩ : ∃ r, r = ti l esc tr p i := ⟨_, rfl⟩
 rw [← hr] at HA ⊢
 clear hr
 go_enter Tryd.func36, Tryd.ntmps36
 go_wp2_with fail
 with_reducible refine HA.out.mono ?_
 rintro e w1 hans
 obtain ⟨v1, y, rfl, h2⟩ := doorBack hans
 have H2 := Aside0.mk h2
 clear h2 hans
 go_wp2_with fail
 refine bodyPost_ret (v := .tuple #[v1, y]) ?_ rfl ?_
 ·simp [results, Tryd.results36, go_sem]
 exact H2.out
set_option maxRecDepth 100000 in
set_option maxHeartbeats 16000000 in
theorem implIndent (h : Ins w A0 c0 xs A1 c1 l) (hp : p.size ≤ 8) (hi : i.size ≤ 8) : Calls Tryd.prog 23 #[.slice A0 xs.length c0, .slice A1 l.length c1, .string p, .string i, .bool esc, .bool tr] w (ImplAns w xs (ti l esc tr p i)) := by
 have HI := Aside0.mk h
 have HP := Aside0.mk (And.intro hp hi)
 have HCP := Aside0.mk (ownCopy h.s0 h.k0 h.n0)
 clear h hp hi
 obtain ⟨r, hr⟩ : ∃ r, r = ti l esc tr p i := ⟨_, rfl⟩
 have HRR := Aside0.mk hr
 rw [← hr]
 clear hr
 go_enter Tryd.func23, Tryd.ntmps23
 go_wp2_with fail
 with_reducible refine HCP.out.mono ?_
 rintro e w1 ⟨⟨v1, rfl, ho1⟩, hb1⟩
 have HO1 := Aside0.mk ho1
 have HB1 := Aside0.mk hb1
 clear ho1 hb1
 have HCP2 := Aside0.mk (ownCopy (Kd.C_below HI.out.s1 HB1.out) HI.out.k1 HI.out.n1)
 go_wp2_with fail
 with_reducible refine HCP2.out.mono ?_
 rintro e w2 ⟨⟨v2, rfl, ho2⟩, hb2⟩
 have hlow : ∀ b, v2.ownBlock = some b → v1.ownBlock ≠ some b := fun b h1 h2 => by
  have h3 := (ho2.lt b h1).1
  have h4 := (HO1.out.lt b h2).2
  omega
 obtain ⟨A, c, rfl, hc2, hs2⟩ := own_slice ho2
 have hob : ∀ a : Addr, A = some a → some a.block ≠ v1.ownBlock := by
  rintro a rfl e
  rcases ho2.2 with ⟨h1, h2⟩ | ⟨g, cap, cur, h1, _⟩
  ·cases h1
  ·cases h1
   exact hlow g rfl e.symm
 have HD := Aside0.mk (dr_of HI.out HO1.out HB1.out hb2 hs2 hc2)
 have HB2 := Aside0.mk hb2
 have HA := Aside0.mk (indentDoor (esc := esc) (tr := tr) HD.out hob HP.out.1 HP.out.2)
 rw [← HRR.out] at HA
 clear ho2 hb2 hs2 hc2 hlow hob
 go_wp2_with fail
 with_reducible refine HA.out.mono ?_
 rintro e w3 hans
 rcases r with _ | T
 ·obtain ⟨v3, u3, g, rfl, hg⟩ := hans
  have HBB := Aside0.mk (out_below (HO1.out.move HB2.out) (below_step HB1.out HB2.out) hg)
  clear hg
  go_wp2_with fail
  go_region
  go_wp2_with fail
  refine bodyPost_ret (v := .tuple #[v3, .bool false]) ?_ rfl ?_
  ·simp [results, Tryd.results23, go_sem]
  exact ⟨v3, rfl, HBB.out.drew⟩
 ·obtain ⟨v3, rfl, ho3, hg⟩ := hans
  have HBB := Aside0.mk (out_below (HO1.out.move HB2.out) (below_step HB1.out HB2.out) hg)
  obtain ⟨A3, c3, rfl, hc3, hs3⟩ := own_slice ho3
  have HS3 := Aside0.mk hs3
  have HC3 := Aside0.mk hc3
  clear hg ho3 hs3 hc3
  go_wp2_with fail
  go_region
  go_wp2_with fail
  refine bodyPost_ret (v := .tuple #[.slice A3 (xs ++ T).length c3, .bool true]) ?_ rfl ?_
  ·simp [results, Tryd.results23, go_sem]
  exact ⟨A3, c3, rfl, HC3.out, Kd.C_below HS3.out (Below.refl _ _).drew, HBB.out.drew⟩
end
end Go.Proofs.YtbikiibpjdiaaaaDoor.Err
/- The reference's Depth: how many brackets are open at most. -/
namespace Go.Proofs.YtbikiibpjdiaaaaDoor.Err
open Go.RowKit Go.Proofs.YtbikiibpjdiaaaaDoorW.PrintWords Go.Proofs.YtbikiibpjdiaaaaDoorW.PrintLast Go.Proofs.YtbikiibpjdiaaaaDoorW.PrintMore
open Go.Proofs.YtbikiibpjdiaaaaDoor.Dig Go.Proofs.YtbikiibpjdiaaaaDoor.Tab Go.Proofs.YtbikiibpjdiaaaaDoor.QL
set_option linter.unusedVariables false
def dp (q : ByteArray → ByteArray) : List Int → Ph → List Br → Int → Int
 | [], _, _, m => m
 | c :: r, ph, st, m => match step q c ph st with
  | .error _ => m
  | .ok s => dp q r s.1 s.2 (max m (s.2.length : Int))
theorem dp_at (q : ByteArray → ByteArray) (l : List Int) (ph : Ph) (st : List Br) (m : Int) (i : Nat) (hi : i < l.length) : dp q (l.drop i) ph st m = match step q (rd l i) ph st with
  | .error _ => m
  | .ok s => dp q (l.drop (i + 1)) s.1 s.2 (max m (s.2.length : Int)) := by
 rw [List.drop_eq_getElem_cons hi]
 have e : rd l i = l[i] := by
  obtain ⟨_, e⟩ := rd_get l i (by omega) (by omega)
  rw [e]
  rfl
 rw [e]
 rfl
theorem dp_end (q : ByteArray → ByteArray) (l : List Int) (ph : Ph) (st : List Br) (m : Int) (i : Nat) (hi : i = l.length) : dp q (l.drop i) ph st m = m := by
 rw [List.drop_eq_nil_of_le (by omega)]
 rfl
section
variable {q : ByteArray → ByteArray} {w0 w : World} {b : Nat} {a d lt : Int} {v : Value} {wd ft : ByteArray} {st : List Br}
set_option maxRecDepth 100000 in
set_option maxHeartbeats 8000000 in
theorem depth (A : Option Addr) (c : Nat) (l : List Int) (w : World) (hG : G q w) (hC : Kd.C (Kd.int .u8) w A l.length l) (hcap : l.length ≤ c) (hb : ∀ y, y ∈ l → 0 ≤ y ∧ y < 256) (hl : l.length ≤ 10000) :
  Calls Tryd.prog 19 #[.slice A l.length c] w fun e w' => e = .returned (.int .i64 (dp q l .val [] 0)) ∧ Below w.heap.size w w' := by
 have HC := Aside0.mk hC
 have HG := Aside0.mk hG
 have HBY := Aside0.mk hb
 clear hC hG hb
 go_enter Tryd.func19, Tryd.ntmps19
 go_wp2_with fail
 go_loopg [4, 11] (l.length + 1) (fun kq v4 v11 w' => ∃ (i : Nat) (ph : Ph) (st : List Br) (m : Int), v4 = .int .i64 m ∧ v11 = .int .i64 i ∧ Aside0 (i ≤ l.length ∧ l.length + 1 ≤ i + kq ∧ WF ph st ∧ st.length ≤ i ∧ dp q l .val [] 0 = dp q (l.drop i) ph st m ∧ SC w' w.heap.size ph st ∧ Below w.heap.size w w'))
 case atStart =>
  refine ⟨0, .val, [], 0, rfl, rfl, by omega, by omega, trivial, by simp, rfl, ?_, ?_⟩
  ·exact ⟨0, none, 0, 0, ByteArray.empty, 0, ByteArray.empty, rfl, sc_new w⟩
  ·exact below_alloc (Below.refl _ _) _
 case round =>
  obtain ⟨i, ph, st, m, rfl, rfl, HA⟩ := hrel
  obtain ⟨hi, hk, hwf, hsl, hff, ⟨a, A2, cc, d, wd, lt, ft, hI, hS⟩, hBB⟩ := HA.out
  clear HA
  by_cases hlt : i < l.length
  ·obtain ⟨ad, rfl, hx⟩ := Kd.at_int (Kd.C_below HC.out hBB) i (by omega) (by omega)
   rw [Int.toNat_natCast] at hx
   have hby := HBY.out (rd l i) (by obtain ⟨hh, e⟩ := rd_get l i (by omega) (by omega); rw [e]; exact List.getElem_mem _)
   have hT := sTake (q := q) ph A2 cc (rd l i) hI hwf HG.out hBB (Nat.le_refl _) hS hby.1 hby.2 (by omega)
   have hffs := dp_at q l ph st m i hlt
   have ei : wrap64 ((i : Int) + 1) = ((i + 1 : Nat) : Int) := by unfold wrap64; omega
   have b1 : decide ((i : Int) < (l.length : Int)) = true := decide_eq_true (by omega)
   cases hst : step q (rd l i) ph st with
   | error msg =>
    rw [hst] at hT hffs
    have HT := Aside0.mk hT
    have HRES : Aside0 (dp q l .val [] 0 = m) := ⟨hff.trans hffs⟩
    have HB := Aside0.mk hBB
    clear hT hffs hst hff hI hS hBB ei hcap hl
    go_wp2_with fail
    with_reducible refine HT.out.mono ?_
    rintro e w1 ⟨rfl, h5, h6⟩
    have HB1 := Aside0.mk (HB.out.trans h6)
    clear h5 h6
    go_wp2_with fail
    go_ret
    rw [HRES.out]
    exact ⟨rfl, HB1.out⟩
   | ok s =>
    rw [hst] at hT hffs
    have hws := wf_step hwf hst
    have HT := Aside0.mk hT
    have HF : Aside0 (dp q l .val [] 0 = dp q (l.drop (i + 1)) s.1 s.2 (max m (s.2.length : Int))) := ⟨hff.trans hffs⟩
    have HWS := Aside0.mk hws
    have HB := Aside0.mk hBB
    clear hT hffs hst hff hI hS hBB hws hwf
    obtain _ | g0 := gk
    ·exfalso; omega
    go_wp2_with fail
    with_reducible refine HT.out.mono ?_
    rintro e w1 ⟨rfl, h5, h6⟩
    have HS1 := Aside0.mk h5
    have HB1 := Aside0.mk (HB.out.trans h6)
    obtain ⟨a1, A1, cc1, d1, wd1, lt1, ft1, hI1, hS1⟩ := h5
    obtain ⟨z0, z1, z2, z3, z4, z5⟩ := hS1.cells
    clear h6 hI1 hS1 z0 z2 z3 z4 z5
    go_wp2_with fail
    go_roundg g0
    case measure => omega
    case rel =>
     exact ⟨i + 1, s.1, s.2, _, rfl, by first | rfl | rw [ei], by omega, by omega, HWS.out.1, by have := HWS.out.2; omega, HF.out, HS1.out, HB1.out⟩
  ·have hil : i = l.length := by omega
   have HRES : Aside0 (dp q l .val [] 0 = m) := ⟨hff.trans (dp_end q l ph st m i hil)⟩
   have b1 : decide ((i : Int) < (l.length : Int)) = false := decide_eq_false (by omega)
   have HB := Aside0.mk hBB
   clear hff hI hS hBB hwf hsl
   go_wp2_with fail
   go_ret
   rw [HRES.out]
   exact ⟨rfl, HB.out⟩
end
end Go.Proofs.YtbikiibpjdiaaaaDoor.Err
