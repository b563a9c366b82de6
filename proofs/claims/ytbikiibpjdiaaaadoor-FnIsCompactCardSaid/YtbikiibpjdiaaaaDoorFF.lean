/- formatJSON, and the doors of the pass: what they write, or that it is no JSON. -/
import Derived.Test.YtbikiibpjdiaaaaDoorFE
import Derived.Test.YtbikiibpjdiaaaaDoorQM1
namespace Go.Proofs.YtbikiibpjdiaaaaDoor.Err
open Go.RowKit Go.Proofs.YtbikiibpjdiaaaaDoorW.PrintWords Go.Proofs.YtbikiibpjdiaaaaDoorW.PrintLast Go.Proofs.YtbikiibpjdiaaaaDoorW.PrintMore
open Go.Proofs.YtbikiibpjdiaaaaDoor.Dig Go.Proofs.YtbikiibpjdiaaaaDoor.Tab Go.Proofs.YtbikiibpjdiaaaaDoor.QF
set_option linter.unusedVariables false
/-- What comes of a whole text. -/
def fj (L : List Int) (esc : Bool) (ind : Ind) : Option (Int × List Int) :=
 match fv L esc ind (2 * L.length + 1) .val (skp L 0) 0 with
 | none => none
 | some (e, T) => if skp L e = (L.length : Int) - 1 then some (e, T) else none
section
variable {N : Nat} {w w' : World} {v u : Value} {ad : Addr} {c : Nat} {L xs E T l : List Int} {ip : Value} {ind : Ind} {esc : Bool} {x y e : Int} {n m d : Nat}
set_option maxRecDepth 100000 in
set_option maxHeartbeats 16000000 in
theorem formatJSON (hC : Ctx N w v ad c L ip ind) (ho : Own N w v xs) (hr : Room xs L 0) :
  Calls Tryd.prog 66 #[v, .slice (some ad) L.length c, .bool esc, ip] w (FmtAns N w v xs (fj L esc ind)) := by
 have hT := hC.txt
 have hpos := hT.pos
 have hk := skp_ge hT (x := 0) (by omega) (by omega)
 have HSK := Aside0.mk (skipSp hC.buf 0 (by omega) (by omega))
 have HV : Aside0 (∀ m, Calls Tryd.prog 73 #[v, .slice (some ad) L.length c, .int .i64 (skp L 0), .bool esc, ip, .int .i64 0] (w.drewN m) (FmtAns N (w.drewN m) v xs (fv L esc ind (2 * L.length + 1) .val (skp L 0) 0))) :=
  ⟨fun m => formatValue (2 * L.length + 1) (w.drewN m) v xs (skp L 0) 0 (hC.below ho (pw_below_drewN (Below.refl _ _) m)) ho (by unfold Room at hr ⊢; omega) (by omega) hk.2 (by omega) (by omega)⟩
 have HT := Aside0.mk hT
 have hsm := hT.small
 have HC := Aside0.mk hC
 have HO := Aside0.mk ho
 have HK := Aside0.mk hk
 have en : wrap64 ((L.length : Int) - 1) = (L.length : Int) - 1 := by unfold wrap64; omega
 obtain ⟨r, hrr⟩ : ∃ r, r = fj L esc ind := ⟨_, rfl⟩
 rw [← hrr]
 have HRR := Aside0.mk hrr
 obtain ⟨z, hz⟩ : ∃ z, z = skp L 0 := ⟨_, rfl⟩
 have HZ := Aside0.mk hz
 rw [← hz] at HSK HV hk HK
 obtain ⟨hz0, hz1⟩ : 0 ≤ z ∧ z < L.length := by omega
 clear hC ho hr hT hk hrr hz
 go_enter Tryd.func66, Tryd.ntmps66
 go_wp2_with fail
 with_reducible refine HSK.out.mono ?_
 rintro e w1 ⟨rfl, ⟨m1, rfl⟩⟩
 go_wp2_with fail
 with_reducible refine (HV.out m1).mono ?_
 rintro e w2 hans
 cases hv : fv L esc ind (2 * L.length + 1) .val z 0 with
 | none =>
  rw [hv] at hans
  obtain ⟨v2, u2, rfl, hg⟩ := hans
  have HG := Aside0.mk (((Grew.refl w v).drewN m1).trans hg)
  have HRES : Aside0 (r = none) := ⟨by rw [HRR.out]; unfold fj; rw [← HZ.out, hv]⟩
  clear hg hv
  go_wp2_with fail
  refine bodyPost_ret (v := .tuple #[v2, .int .i64 0, .bool false]) ?_ rfl ?_
  ·simp [results, Tryd.results66, go_sem]
  rw [HRES.out]
  exact ⟨v2, u2, rfl, HG.out⟩
 | some pr =>
  obtain ⟨e1, T⟩ := pr
  rw [hv] at hans
  obtain ⟨v2, rfl, ho2, hg⟩ := hans
  have HG := Aside0.mk (((Grew.refl w v).drewN m1).trans hg)
  have HO2 := Aside0.mk ho2
  have hok := fv_ok (q := fun s => s) HT.out _ _ _ _ _ _ hz0 hz1 hv
  have hk1 := skp_ge HT.out (x := e1) (by omega) hok.2.1
  have HSK2 := Aside0.mk (skipSp (HC.out.grew HO.out HG.out).buf e1 (by omega) hok.2.1)
  have HV2 := Aside0.mk hv
  by_cases hend : skp L e1 = (L.length : Int) - 1
  ·have HRES : Aside0 (r = some (e1, T)) := ⟨by rw [HRR.out]; unfold fj; rw [← HZ.out, hv]; simp only [if_pos hend]⟩
   have fe : ((L.length : Int) - 1 == (L.length : Int) - 1) = true := beq_iff_eq.mpr rfl
   rw [hend] at HSK2
   clear hg ho2 hok hk1 hv hend
   go_wp2_with fail
   with_reducible refine HSK2.out.mono ?_
   rintro e w3 ⟨rfl, ⟨m3, rfl⟩⟩
   go_wp2_with fail
   refine bodyPost_ret (v := .tuple #[v2, .int .i64 e1, .bool true]) ?_ rfl ?_
   ·simp [results, Tryd.results66, go_sem]
   rw [HRES.out]
   exact ⟨v2, rfl, HO2.out, HG.out.drewN m3⟩
  ·have HRES : Aside0 (r = none) := ⟨by rw [HRR.out]; unfold fj; rw [← HZ.out, hv]; simp only [if_neg hend]⟩
   obtain ⟨z1, hz1e⟩ : ∃ z1, z1 = skp L e1 := ⟨_, rfl⟩
   rw [← hz1e] at hend HSK2
   have fe : (z1 == (L.length : Int) - 1) = false := beq_eq_false_iff_ne.mpr hend
   clear hg ho2 hok hk1 hv hend hz1e
   go_wp2_with fail
   with_reducible refine HSK2.out.mono ?_
   rintro e w3 ⟨rfl, ⟨m3, rfl⟩⟩
   go_wp2_with fail
   refine bodyPost_ret (v := .tuple #[v2, .int .i64 0, .bool false]) ?_ rfl ?_
   ·simp [results, Tryd.results66, go_sem]
   rw [HRES.out]
   exact ⟨v2, v2, rfl, HG.out.drewN m3⟩
/-- An error that is not nil. -/
theorem errNew (s : ByteArray) (w : World) : Calls Tryd.prog 75 #[.string s] w fun e w' => (∃ g, e = .returned (.iface 95 (.pointer (some ⟨g, 0, none⟩)))) ∧ Below w.heap.size w w' := by
 go_enter Tryd.func75, Tryd.ntmps75
 go_wp2
 go_ret
 exact ⟨⟨_, rfl⟩, below_alloc (Below.refl _ _) _⟩
theorem formatErr (A : Option Addr) (k c : Nat) (w : World) : Calls Tryd.prog 67 #[.slice A k c] w fun e w' => (∃ g, e = .returned (.iface 95 (.pointer (some ⟨g, 0, none⟩)))) ∧ Below w.heap.size w w' := by
 go_enter Tryd.func67, Tryd.ntmps67
 go_wp2_with fail
 refine (errNew _ _).mono ?_
 rintro e w' ⟨⟨g, rfl⟩, hb⟩
 go_wp2
 go_ret
 exact ⟨⟨g, rfl⟩, hb⟩
/-- What the doors answer: the new row, and no error; or an error. -/
def DoorAns (N : Nat) (w : World) (v : Value) (xs : List Int) (r : Option (List Int)) (e : Ending) (w' : World) : Prop :=
 match r with
 | some T => ∃ v', e = .returned (.tuple #[v', .nilIface]) ∧ Own N w' v' (xs ++ T) ∧ Grew w v w' v'
 | none => ∃ v' u g, e = .returned (.tuple #[v', .iface 95 (.pointer (some ⟨g, 0, none⟩))]) ∧ Grew w v w' u
theorem buf_own {M : Nat} (ho : Own M w u (l ++ [0])) (hb : ∀ y, y ∈ l → 0 ≤ y ∧ y < 256) (hl : l.length ≤ 70000000) : ∃ ad c, u = .slice (some ad) (l ++ [0]).length c ∧ u.ownBlock = some ad.block ∧ Buf w ad c (l ++ [0]) := by
 have hlen : (l ++ [(0 : Int)]).length = l.length + 1 := by rw [List.length_append]; rfl
 obtain ⟨A, c, rfl, hc, hR⟩ := own_reads_of_le (enc := Value.int .u8) (d := (0 : Int)) (xs := l ++ [0]) ho
 obtain ⟨ad, rfl, _⟩ := hR.2.2 (by omega)
 refine ⟨ad, c, rfl, rfl, Kd.C_of_reads (d := (0 : Int)) (h1 := fun _ => rfl) hR, hc, fun y hy => ?_, by omega, by omega, ?_⟩
 ·rcases List.mem_append.1 hy with h | h
  ·exact hb y h
  ·have : y = 0 := by simpa using h
   omega
 ·rw [hlen, show ((l.length + 1 : Nat) : Int) - 1 = (l.length : Int) by omega]
  exact rd_last l 0
end
end Go.Proofs.YtbikiibpjdiaaaaDoor.Err
/- The pass alone: appendCompacted, CompactByPass, and the thin package's door. -/
namespace Go.Proofs.YtbikiibpjdiaaaaDoor.Err
open Go.RowKit Go.Proofs.YtbikiibpjdiaaaaDoorW.PrintWords Go.Proofs.YtbikiibpjdiaaaaDoorW.PrintLast Go.Proofs.YtbikiibpjdiaaaaDoorW.PrintMore
open Go.Proofs.YtbikiibpjdiaaaaDoor.Dig Go.Proofs.YtbikiibpjdiaaaaDoor.Tab Go.Proofs.YtbikiibpjdiaaaaDoor.QF Go.Proofs.YtbikiibpjdiaaaaDoor.QM
set_option linter.unusedVariables false
section
variable {N : Nat} {w w' : World} {v u : Value} {A : Option Addr} {c : Nat} {xs l : List Int} {esc : Bool}
/-- What a door of the pass stands on: the row that is written to, the bytes, the table. -/
structure Dr (N : Nat) (w : World) (v : Value) (xs : List Int) (A : Option Addr) (c : Nat) (l : List Int) : Prop where
 own : Own N w v xs
 src : Kd.C (Kd.int .u8) w A l.length l
 cap : l.length ≤ c
 byt : ∀ y, y ∈ l → 0 ≤ y ∧ y < 256
 len : l.length ≤ 70000000
 xln : xs.length ≤ 70000000
 tab : Glob w
 low : 0 < N
 size : N ≤ w.heap.size
theorem Dr.below (h : Dr N w v xs A c l) (hb : Below w.heap.size w w') : Dr N w' v xs A c l := ⟨h.own.move hb, Kd.C_below h.src hb, h.cap, h.byt, h.len, h.xln, h.tab.below hb, h.low, Nat.le_trans h.size hb.size⟩
/-- The terminated copy of the bytes. -/
theorem ctx_of (h : Dr N w v xs A c l) (hb : Below w.heap.size w w') (ho : Own w.heap.size w' u (l ++ [0])) {ip : Value} {ind : Ind} (hf : IndIs w' v ip ind) :
  ∃ ad cc, u = .slice (some ad) (l ++ [0]).length cc ∧ Ctx N w' v ad cc (l ++ [0]) ip ind := by
 obtain ⟨ad, cc, hu, hob, hB⟩ := buf_own ho h.byt h.len
 refine ⟨ad, cc, hu, hB, h.tab.below hb, h.low, Nat.le_trans h.size hb.size, fun e => ?_, hf⟩
 have h1 := (ho.lt _ hob).1
 have h2 := (h.own.lt _ e).2
 omega
theorem src_C {k : Nat} (h : Kd.C (Kd.int .u8) w A l.length l) : Src Tryd.prog 1 22 (.slice A l.length k) l.length (nums .u8 l) w := by
 have hR := Kd.reads_of_C (enc := Value.int .u8) (d := (0 : Int)) (h1 := fun _ => rfl) h
 cases A with
 | none =>
  have hl : l = [] := by
   cases l with
   | nil => rfl
   | cons a r => obtain ⟨ad, e, _⟩ := hR.2.2 (by simp); cases e
  subst hl
  exact src_none k
 | some ad =>
  refine src_slice rfl fun j z hz => ?_
  unfold nums at hz
  rw [List.getElem?_map] at hz
  obtain ⟨y, hy, rfl⟩ := Option.map_eq_some_iff.1 hz
  have hj : j < l.length := (List.getElem?_eq_some_iff.1 hy).1
  obtain ⟨ad2, e, hc⟩ := hR.2.2 (by omega)
  cases e
  rw [hc j hj, List.getD_eq_getElem?_getD, hy]
  rfl
/-- What is new lies behind all that was there. -/
theorem input_below {w1 w2 : World} {v1 v2 : Value} (h1 : Grew (w.alloc (.cells #[] 5)) (.slice (some ⟨w.heap.size, 0, none⟩) 0 0) w1 v1) (h2 : Grew w1 v1 w2 v2) : Below w.heap.size w w2 := by
 have h := h1.trans h2
 refine pw_below_grown (below_alloc (Below.refl _ _) _) _ (by simp) h.1 fun k hk => ?_
 have : w.heap.size = k := by simpa [Value.ownBlock] using hk
 omega
theorem room_of (hx : xs.length ≤ 70000000) (hl : l.length ≤ 70000000) : Room xs (l ++ [0]) 0 := by
 unfold Room
 rw [List.length_append]
 simp
 omega
set_option maxRecDepth 100000 in
set_option maxHeartbeats 16000000 in
theorem appendCompacted (h : Dr N w v xs A c l) : Calls Tryd.prog 48 #[v, .slice A l.length c, .bool esc] w (DoorAns N w v xs ((fj (l ++ [0]) esc none).map (·.2))) := by
 have HD := Aside0.mk h
 obtain ⟨r, hr⟩ : ∃ r, r = fj (l ++ [0]) esc none := ⟨_, rfl⟩
 rw [← hr]
 have HRR := Aside0.mk hr
 clear h hr
 go_enter Tryd.func48, Tryd.ntmps48
 go_wp2_with (first | ((with_reducible refine gate_builtin (b := .append) (xs := #[.tmp 12, .tmp 13]) rfl ?_); at_builtin; refine wpList_app (N := w.heap.size) rfl (.tmp 12) (.tmp 13) 22 rfl (.slice (some ⟨w.heap.size, 0, none⟩) 0 0) _ [] l rfl rfl ?aO ?aS ?aB ?aN ?_; (case aO => exact World.ownsRow_made w #[] 0 (Nat.le_refl _) (Nat.zero_le _) rfl); (case aS => exact src_C (Kd.C_below HD.out.src (below_alloc (Below.refl _ _) _))); (case aB => have := HD.out.len; simp; omega); (case aN => simp); intro v1 w1 ho hg; have HO1 := Aside0.mk ho; have HG1 := Aside0.mk hg; clear ho hg) | ((with_reducible refine gate_builtin (b := .append) (xs := #[.tmp 14, .tmp 15]) rfl ?_); at_builtin; refine wpList_app (N := w.heap.size) rfl (.tmp 14) (.tmp 15) 22 rfl v1 _ ([] ++ l) [0] rfl rfl (HO1.out.move (below_alloc (Below.refl _ _) _)) ?aS ?aB ?aN ?_; (case aS => (refine src_new (b := w1.heap.size) ?_ rfl; exact ⟨_, blk_new w1 _, rfl⟩)); (case aB => have := HD.out.len; simp; omega); (case aN => have := HG1.out.size; simp at this ⊢; omega); intro v2 w2 ho hg; have HO2 := Aside0.mk ho; have HG2 := Aside0.mk (((Grew.refl w1 v1).alloc _).trans hg); clear ho hg))
 have HB2 := Aside0.mk (input_below HG1.out HG2.out)
 obtain ⟨ad, cc, rfl, hctx⟩ := ctx_of HD.out HB2.out (by have := HO2.out; simpa using this) (ip := .pointer none) (ind := none) (.inl ⟨rfl, rfl⟩)
 have HJ := Aside0.mk (formatJSON (esc := esc) hctx (HD.out.own.move HB2.out) (room_of HD.out.xln HD.out.len))
 rw [← HRR.out] at HJ
 clear hctx
 with_reducible refine HJ.out.mono ?_
 rintro e w3 hans
 rcases r with _ | ⟨e1, T⟩
 ·obtain ⟨v3, u3, rfl, hg⟩ := hans
  have HG := Aside0.mk ((Grew.below HB2.out).trans hg)
  clear hg
  go_wp2_with fail
  with_reducible refine (formatErr _ _ _ _).mono ?_
  rintro e w4 ⟨⟨g, rfl⟩, hb4⟩
  have HB4 := Aside0.mk hb4
  clear hb4
  go_wp2_with fail
  refine bodyPost_ret (v := .tuple #[v, .iface 95 (.pointer (some ⟨g, 0, none⟩))]) ?_ rfl ?_
  ·simp [results, Tryd.results48, go_sem]
  exact ⟨v, u3, g, rfl, HG.out.trans (Grew.below HB4.out)⟩
 ·obtain ⟨v3, rfl, ho3, hg⟩ := hans
  have HO3 := Aside0.mk ho3
  have HG := Aside0.mk ((Grew.below HB2.out).trans hg)
  clear hg ho3
  go_wp2_with fail
  refine bodyPost_ret (v := .tuple #[v3, .nilIface]) ?_ rfl ?_
  ·simp [results, Tryd.results48, go_sem]
  exact ⟨v3, rfl, HO3.out, HG.out⟩
theorem doorBack {r : Option (List Int)} {e : Ending} (h : DoorAns N w v xs r e w') : ∃ v' y, e = .returned (.tuple #[v', y]) ∧ DoorAns N w v xs r (.returned (.tuple #[v', y])) w' := by
 cases r with
 | none => obtain ⟨v', u, g, rfl, hg⟩ := h; exact ⟨v', _, rfl, v', u, g, rfl, hg⟩
 | some T => obtain ⟨v', rfl, h2⟩ := h; exact ⟨v', _, rfl, v', rfl, h2⟩
set_option maxRecDepth 100000 in
set_option maxHeartbeats 16000000 in
theorem compactByPass (h : Dr N w v xs A c l) : Calls Tryd.prog 35 #[v, .slice A l.length c, .bool esc] w (DoorAns N w v xs ((fj (l ++ [0]) esc none).map (·.2))) := by
 have HA := Aside0.mk (appendCompacted (esc := esc) h)
 clear h
 obtain ⟨r, hr⟩ : ∃ r, r = (fj (l ++ [0]) esc none).map (·.2) := ⟨_, rfl⟩
 rw [← hr] at HA ⊢
 clear hr
 go_enter Tryd.func35, Tryd.ntmps35
 go_wp2_with fail
 with_reducible refine HA.out.mono ?_
 rintro e w1 hans
 obtain ⟨v1, y, rfl, h2⟩ := doorBack hans
 have H2 := Aside0.mk h2
 clear h2 hans
 go_wp2_with fail
 refine bodyPost_ret (v := .tuple #[v1, y]) ?_ rfl ?_
 ·simp [results, Tryd.results35, go_sem]
 exact H2.out
/-- What the thin package answers: a new row, and whether it is one value. -/
def ImplAns (w : World) (xs : List Int) (r : Option (List Int)) (e : Ending) (w' : World) : Prop :=
 match r with
 | some T => ∃ A k, e = .returned (.tuple #[.slice A (xs ++ T).length k, .bool true]) ∧ (xs ++ T).length ≤ k ∧ Kd.C (Kd.int .u8) w' A (xs ++ T).length (xs ++ T) ∧ Below w.heap.size w w'
 | none => ∃ v', e = .returned (.tuple #[v', .bool false]) ∧ Below w.heap.size w w'
theorem ownCopy {A0 : Option Addr} {c0 : Nat} (h : Kd.C (Kd.int .u8) w A0 xs.length xs) (hc : xs.length ≤ c0) (hl : xs.length ≤ 70000000) : Calls Tryd.prog 26 #[.slice A0 xs.length c0] w fun e w' => (∃ v, e = .returned v ∧ Own w.heap.size w' v xs) ∧ Below w.heap.size w w' := by
 refine (impl_own.calls A0 c0 xs xs w h hc (by unfold impl_own.f; simp; omega)).mono ?_
 rintro e w' ⟨v, rfl, hR, hb⟩
 exact ⟨⟨v, rfl, Kd.own_of_R hR⟩, hb⟩
end
end Go.Proofs.YtbikiibpjdiaaaaDoor.Err
/- The thin package's door of the pass alone. -/
namespace Go.Proofs.YtbikiibpjdiaaaaDoor.Err
open Go.RowKit Go.Proofs.YtbikiibpjdiaaaaDoorW.PrintWords Go.Proofs.YtbikiibpjdiaaaaDoorW.PrintLast Go.Proofs.YtbikiibpjdiaaaaDoorW.PrintMore
open Go.Proofs.YtbikiibpjdiaaaaDoor.Dig Go.Proofs.YtbikiibpjdiaaaaDoor.Tab Go.Proofs.YtbikiibpjdiaaaaDoor.QF Go.Proofs.YtbikiibpjdiaaaaDoor.QM
set_option linter.unusedVariables false
section
variable {N : Nat} {w w' w0 : World} {v u : Value} {A0 A1 : Option Addr} {c0 c1 : Nat} {xs l : List Int} {esc : Bool}
theorem glob_low (h : Glob w) : 0 < w.heap.size := World.block_lt_of_cell? w ⟨0, 0, none⟩ (h.tab 0 (by decide))
/-- A row of the call's own, as a slice. -/
theorem own_slice (h : Own N w v xs) : ∃ A c, v = .slice A xs.length c ∧ xs.length ≤ c ∧ Kd.C (Kd.int .u8) w A xs.length xs := by
 obtain ⟨A, c, hv, hc, hR⟩ := own_reads_of_le (enc := Value.int .u8) (d := (0 : Int)) (xs := xs) h
 exact ⟨A, c, hv, hc, Kd.C_of_reads (d := (0 : Int)) (h1 := fun _ => rfl) hR⟩
/-- What the thin package is called with. -/
structure Ins (w : World) (A0 : Option Addr) (c0 : Nat) (xs : List Int) (A1 : Option Addr) (c1 : Nat) (l : List Int) : Prop where
 s0 : Kd.C (Kd.int .u8) w A0 xs.length xs
 k0 : xs.length ≤ c0
 n0 : xs.length ≤ 70000000
 s1 : Kd.C (Kd.int .u8) w A1 l.length l
 k1 : l.length ≤ c1
 n1 : l.length ≤ 70000000
 byt : ∀ y, y ∈ l → 0 ≤ y ∧ y < 256
 tab : Glob w
theorem dr_of {w1 w2 : World} {A : Option Addr} {c : Nat} (h : Ins w A0 c0 xs A1 c1 l) (ho : Own w.heap.size w1 v xs) (hb1 : Below w.heap.size w w1) (hb2 : Below w1.heap.size w1 w2) (hs : Kd.C (Kd.int .u8) w2 A l.length l) (hc : l.length ≤ c) : Dr w.heap.size w2 v xs A c l :=
 ⟨ho.move hb2, hs, hc, h.byt, h.n1, h.n0, (h.tab.below hb1).below hb2, glob_low h.tab, Nat.le_trans hb1.size hb2.size⟩
theorem out_below {w1 w2 : World} (ho : Own w.heap.size w1 v xs) (hb1 : Below w.heap.size w w1) (hg : Grew w1 v w2 u) : Below w.heap.size w w2 :=
 pw_below_grown hb1 _ hb1.size hg.1 fun k hk => (ho.lt k hk).1
set_option maxRecDepth 100000 in
set_option maxHeartbeats 16000000 in
theorem implCompactByPass (h : Ins w A0 c0 xs A1 c1 l) : Calls Tryd.prog 21 #[.slice A0 xs.length c0, .slice A1 l.length c1, .bool esc] w (ImplAns w xs ((fj (l ++ [0]) esc none).map (·.2))) := by
 have HI := Aside0.mk h
 have HCP := Aside0.mk (ownCopy h.s0 h.k0 h.n0)
 clear h
 obtain ⟨r, hr⟩ : ∃ r, r = (fj (l ++ [0]) esc none).map (·.2) := ⟨_, rfl⟩
 have HRR := Aside0.mk hr
 rw [← hr]
 clear hr
 go_enter Tryd.func21, Tryd.ntmps21
 go_wp2_with fail
 with_reducible refine HCP.out.mono ?_
 rintro e w1 ⟨⟨v1, rfl, ho1⟩, hb1⟩
 have HO1 := Aside0.mk ho1
 have HB1 := Aside0.mk hb1
 clear ho1 hb1
 have HCP2 := Aside0.mk (ownCopy (Kd.C_below HI.out.s1 HB1.out) HI.out.k1 HI.out.n1)
 go_wp2_with fail
 with_reducible refine HCP2.out.mono ?_
 rintro e w2 ⟨⟨v2, rfl, ho2⟩, hb2⟩
 obtain ⟨A, c, rfl, hc2, hs2⟩ := own_slice ho2
 have HD := Aside0.mk (dr_of HI.out HO1.out HB1.out hb2 hs2 hc2)
 have HB2 := Aside0.mk hb2
 have HA := Aside0.mk (compactByPass (esc := esc) HD.out)
 rw [← HRR.out] at HA
 clear ho2 hb2 hs2 hc2
 go_wp2_with fail
 with_reducible refine HA.out.mono ?_
 rintro e w3 hans
 rcases r with _ | T
 ·obtain ⟨v3, u3, g, rfl, hg⟩ := hans
  have HBB := Aside0.mk (out_below (HO1.out.move HB2.out) (below_step HB1.out HB2.out) hg)
  clear hg
  go_wp2_with fail
  go_region
  go_wp2_with fail
  refine bodyPost_ret (v := .tuple #[v3, .bool false]) ?_ rfl ?_
  ·simp [results, Tryd.results21, go_sem]
  exact ⟨v3, rfl, HBB.out.drew⟩
 ·obtain ⟨v3, rfl, ho3, hg⟩ := hans
  have HBB := Aside0.mk (out_below (HO1.out.move HB2.out) (below_step HB1.out HB2.out) hg)
  obtain ⟨A3, c3, rfl, hc3, hs3⟩ := own_slice ho3
  have HS3 := Aside0.mk hs3
  have HC3 := Aside0.mk hc3
  clear hg ho3 hs3 hc3
  go_wp2_with fail
  go_region
  go_wp2_with fail
  refine bodyPost_ret (v := .tuple #[.slice A3 (xs ++ T).length c3, .bool true]) ?_ rfl ?_
  ·simp [results, Tryd.results21, go_sem]
  exact ⟨A3, c3, rfl, HC3.out, Kd.C_below HS3.out (Below.refl _ _).drew, HBB.out.drew⟩
end
end Go.Proofs.YtbikiibpjdiaaaaDoor.Err
