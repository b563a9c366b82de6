/- The reference's scanner in memory, and its small functions: what is wrong, where it stands behind a value. -/
import Derived.Test.YtbikiibpjdiaaaaDoorFB
import Derived.Test.YtbikiibpjdiaaaaDoorQL1
import Derived.Test.YtbikiibpjdiaaaaDoorFA
namespace Go.Proofs.YtbikiibpjdiaaaaDoor.Err
open Go.RowKit Go.Proofs.YtbikiibpjdiaaaaDoorW.PrintWords Go.Proofs.YtbikiibpjdiaaaaDoorW.PrintLast Go.Proofs.YtbikiibpjdiaaaaDoorW.PrintMore
open Go.Proofs.YtbikiibpjdiaaaaDoor.Dig Go.Proofs.YtbikiibpjdiaaaaDoor.Tab Go.Proofs.YtbikiibpjdiaaaaDoor.QL
set_option linter.unusedVariables false
def brB : Br → Int
 | .obj => 123
 | .arr => 91
 | .key => 58
/-- The brackets that are open, as bytes, the outermost first. -/
def stB (st : List Br) : List Int := (st.map brB).reverse
theorem stB_len (st : List Br) : (stB st).length = st.length := by unfold stB; simp
theorem stB_cons (x : Br) (r : List Br) : stB (x :: r) = stB r ++ [brB x] := by unfold stB; simp
theorem stB_top (x : Br) (r : List Br) : rd (stB (x :: r)) (r.length : Int) = brB x := by
 rw [stB_cons, ← stB_len r]
 exact rd_last _ _
theorem stB_set (x y : Br) (r : List Br) : (stB (x :: r)).set r.length (brB y) = stB (y :: r) := by
 rw [stB_cons, stB_cons, ← stB_len r, List.set_append_right _ _ (Nat.le_refl _), Nat.sub_self]
 rfl
/-- The scanner's fields at a place. -/
def PhI : Ph → Int → Int → ByteArray → Int → Prop
 | .val, a, _, _, _ => a = 0
 | .item0, a, _, _, _ => a = 1
 | .name0, a, _, _, _ => a = 2
 | .name, a, _, _, _ => a = 3
 | .colon, a, _, _, _ => a = 4
 | .memb, a, _, _, _ => a = 5
 | .item, a, _, _, _ => a = 6
 | .all, a, _, _, _ => a = 7
 | .text, a, _, _, _ => a = 8
 | .esc, a, _, _, _ => a = 9
 | .dig k, a, d, _, _ => a = 10 ∧ d = k ∧ k < 4
 | .minus, a, _, _, _ => a = 11
 | .zero, a, _, _, _ => a = 12
 | .whole, a, _, _, _ => a = 13
 | .point, a, _, _, _ => a = 14
 | .frac, a, _, _, _ => a = 15
 | .e, a, _, _, _ => a = 16
 | .sign, a, _, _, _ => a = 17
 | .exp, a, _, _, _ => a = 18
 | .word l k, a, _, wd, lt => a = 19 ∧ wd = litBytes l ∧ lt = k ∧ (l = lTrue ∨ l = lFalse ∨ l = lNull) ∧ 1 ≤ k ∧ k < l.length
/-- The scanner's block. -/
structure SCW (w : World) (b : Nat) (a : Int) (v : Value) (d : Int) (wd : ByteArray) (lt : Int) (ft : ByteArray) (st : List Br) : Prop where
 blk : w.heap[b]? = some (.cells #[.int .i64 a, v, .int .i64 d, .string wd, .int .i64 lt, .string ft] 58 (0, 0))
 own : w.ownsRow (b + 1) 5 1 v st.length (nums .u8 (stB st))
/-- A scanner that stands somewhere. -/
def SC (w : World) (b : Nat) (ph : Ph) (st : List Br) : Prop := ∃ a A c d wd lt ft, PhI ph a d wd lt ∧ SCW w b a (.slice A st.length c) d wd lt ft st
/-- A row from behind a block on stays when that block is written. -/
theorem own_setb {w : World} {b n : Nat} {e : TypeId} {v : Value} {xs : List Value} (h : w.ownsRow (b + 1) e 1 v n xs) (j : Nat) (u : Value) : (w.setCell ⟨b, j, none⟩ u).ownsRow (b + 1) e 1 v n xs := by
 refine h.kept (row := some b) ⟨rfl, rfl, rfl, by simp, fun k _ hk => heap_setCell_other w ⟨b, j, none⟩ k u (fun e => hk (by rw [e]))⟩ ?_
 cases hv : v.ownBlock with
 | none => exact .inl rfl
 | some k =>
  refine .inr fun e => ?_
  have h2 := h.lt k hv
  cases e
  omega
section
variable {w w' : World} {b : Nat} {a d lt : Int} {v : Value} {wd ft : ByteArray} {st : List Br}
theorem SCW.cells (h : SCW w b a v d wd lt ft st) : w.cell? ⟨b, 0, none⟩ = some (.int .i64 a) ∧ w.cell? ⟨b, 1, none⟩ = some v ∧ w.cell? ⟨b, 2, none⟩ = some (.int .i64 d) ∧ w.cell? ⟨b, 3, none⟩ = some (.string wd) ∧ w.cell? ⟨b, 4, none⟩ = some (.int .i64 lt) ∧ w.cell? ⟨b, 5, none⟩ = some (.string ft) := by
 have h2 := h.blk
 refine ⟨?_, ?_, ?_, ?_, ?_, ?_⟩ <;> simp [World.cell?, h2]
theorem SCW.free (h : SCW w b a v d wd lt ft st) (j : Nat) : w.frozen? ⟨b, j, none⟩ = false := by
 have h2 := h.blk
 simp [World.frozen?, h2]
theorem SCW.size (h : SCW w b a v d wd lt ft st) : b < w.heap.size := blk_lt' h.blk
theorem SCW.put0 (h : SCW w b a v d wd lt ft st) (x : Int) : SCW (w.setCell ⟨b, 0, none⟩ (.int .i64 x)) b x v d wd lt ft st :=
 ⟨by have := heap_setCell_same w b 0 _ 58 (.int .i64 x) h.blk; simpa using this, own_setb h.own 0 _⟩
theorem SCW.put2 (h : SCW w b a v d wd lt ft st) (x : Int) : SCW (w.setCell ⟨b, 2, none⟩ (.int .i64 x)) b a v x wd lt ft st :=
 ⟨by have := heap_setCell_same w b 2 _ 58 (.int .i64 x) h.blk; simpa using this, own_setb h.own 2 _⟩
theorem SCW.put3 (h : SCW w b a v d wd lt ft st) (x : ByteArray) : SCW (w.setCell ⟨b, 3, none⟩ (.string x)) b a v d x lt ft st :=
 ⟨by have := heap_setCell_same w b 3 _ 58 (.string x) h.blk; simpa using this, own_setb h.own 3 _⟩
theorem SCW.put4 (h : SCW w b a v d wd lt ft st) (x : Int) : SCW (w.setCell ⟨b, 4, none⟩ (.int .i64 x)) b a v d wd x ft st :=
 ⟨by have := heap_setCell_same w b 4 _ 58 (.int .i64 x) h.blk; simpa using this, own_setb h.own 4 _⟩
theorem SCW.put5 (h : SCW w b a v d wd lt ft st) (x : ByteArray) : SCW (w.setCell ⟨b, 5, none⟩ (.string x)) b a v d wd lt x st :=
 ⟨by have := heap_setCell_same w b 5 _ 58 (.string x) h.blk; simpa using this, own_setb h.own 5 _⟩
/-- Other brackets, in a row that is in force. -/
theorem SCW.put1 (h : SCW w b a v d wd lt ft st) {v2 : Value} {st2 : List Br} (ho : w.ownsRow (b + 1) 5 1 v2 st2.length (nums .u8 (stB st2))) : SCW (w.setCell ⟨b, 1, none⟩ v2) b a v2 d wd lt ft st2 :=
 ⟨by have := heap_setCell_same w b 1 _ 58 v2 h.blk; simpa using this, own_setb ho 1 _⟩
theorem SCW.below (h : SCW w b a v d wd lt ft st) (hb : Below w.heap.size w w') : SCW w' b a v d wd lt ft st :=
 ⟨by rw [hb.block b h.size]; exact h.blk, h.own.kept (grown_of_below hb none) (by cases hv : v.ownBlock <;> simp)⟩
theorem SCW.drewN (h : SCW w b a v d wd lt ft st) (n : Nat) : SCW (w.drewN n) b a v d wd lt ft st := ⟨h.blk, h.own⟩
/-- The row of brackets that are open, where there is one. -/
theorem SCW.row {A : Option Addr} {c : Nat} {x : Br} {r : List Br} (h : SCW w b a (.slice A (x :: r).length c) d wd lt ft (x :: r)) : ∃ g, A = some ⟨g, 0, none⟩ ∧ b < g ∧ g < w.heap.size ∧ (x :: r).length ≤ c ∧
  w.cell? ⟨g, r.length, none⟩ = some (.int .u8 (brB x)) ∧ w.frozen? ⟨g, r.length, none⟩ = false ∧
  (∀ y : Br, SCW (w.setCell ⟨g, r.length, none⟩ (.int .u8 (brB y))) b a (.slice A (x :: r).length c) d wd lt ft (y :: r)) ∧
  w.ownsRow (b + 1) 5 1 (.slice A r.length c) r.length (nums .u8 (stB r)) := by
 have ho := h.own
 rcases ho.2 with ⟨h1, h2⟩ | ⟨g, cap, cur, h1, hbg, hg, hn, hm, hs, ht⟩
 ·cases h2
 ·cases h1
  have h0 := own_at ho (r.length : Int) (by omega) (by simp; omega)
  rw [Int.toNat_natCast, stB_top] at h0
  refine ⟨g, rfl, by omega, blk_lt' hg, hn, h0.1, h0.2, fun y => ?_, ?_⟩
  ·have hst := own_store ho (r.length : Int) (brB y)
   rw [Int.toNat_natCast, stB_set] at hst
   refine ⟨?_, by have := hst.1; simpa using this⟩
   rw [heap_setCell_other w ⟨g, r.length, none⟩ b _ (by show b ≠ g; omega)]
   exact h.blk
  ·refine ⟨by simp [nums, stB_len], .inr ⟨g, c, cur, rfl, hbg, hg, by simp at hn; omega, hm, hs, ?_⟩⟩
   have e : nums .u8 (stB (x :: r)) = nums .u8 (stB r) ++ [.int .u8 (brB x)] := by rw [stB_cons]; simp [nums]
   rw [e] at ht
   have : cur.toList.take (r.length * 1) = (cur.toList.take ((x :: r).length * 1)).take r.length := by
    rw [List.take_take]
    congr 1
    simp
   rw [this, ht, List.take_left' (by simp [nums, stB_len])]
end
end Go.Proofs.YtbikiibpjdiaaaaDoor.Err
/- The reference's scanner: what is wrong, where it stands behind a value, the first byte of a value, a name, a bracket that closes. -/
namespace Go.Proofs.YtbikiibpjdiaaaaDoor.Err
open Go.RowKit Go.Proofs.YtbikiibpjdiaaaaDoorW.PrintWords Go.Proofs.YtbikiibpjdiaaaaDoorW.PrintLast Go.Proofs.YtbikiibpjdiaaaaDoorW.PrintMore
open Go.Proofs.YtbikiibpjdiaaaaDoor.Dig Go.Proofs.YtbikiibpjdiaaaaDoor.Tab Go.Proofs.YtbikiibpjdiaaaaDoor.QL
set_option linter.unusedVariables false
set_option maxRecDepth 100000 in
set_option maxHeartbeats 4000000 in
theorem sQuoted (q : ByteArray → ByteArray) (c : Int) (w : World) (hG : G q w) (h0 : 0 ≤ c) (h1 : c < 256) : Calls Tryd.prog 62 #[.int .u8 c] w fun e w' => e = .returned (.string (quoted q c)) ∧ Below w.heap.size w w' := by
 have hq := hG.quote
 have h2 := hG.two (Utf8.encode c)
 have h3 := hG.low c h0 h1
 clear hG
 by_cases c1 : c = 39
 ·subst c1
  go_enter Tryd.func62, Tryd.ntmps62
  go_wp2
  go_ret
  exact ⟨rfl, Below.refl _ _⟩
 by_cases c2 : c = 34
 ·subst c2
  go_enter Tryd.func62, Tryd.ntmps62
  go_wp2
  go_ret
  exact ⟨rfl, Below.refl _ _⟩
 have f1 : (c == 39) = false := beq_eq_false_iff_ne.mpr c1
 have f2 : (c == 34) = false := beq_eq_false_iff_ne.mpr c2
 go_enter Tryd.func62, Tryd.ntmps62
 go_wp2_with fail
 refine (hq _ w (by have := encode_size_le c; omega) (Below.refl _ _)).mono ?_
 rintro e w' ⟨rfl, hb⟩
 have HB := Aside0.mk hb
 clear hb hq
 go_wp2
 rw [Go.run_slice_string _ 9 _ _ _ _ _ Tryd.underlying9 (by omega) (by omega) (by omega)]
 go_wp2
 go_ret
 refine ⟨?_, HB.out⟩
 unfold quoted
 rw [if_neg c1, if_neg c2]
 rfl
theorem bset {B k j : Nat} {w w' : World} {u : Value} (h : Below B w w') (hk : B ≤ k) : Below B w (w'.setCell ⟨k, j, none⟩ u) := h.setCell hk u
/-- What a fault leaves: its words. -/
def Wrong (b : Nat) (m : ByteArray) (w : World) (e : Ending) (w' : World) : Prop := e = .returned (.bool false) ∧ w'.cell? ⟨b, 5, none⟩ = some (.string m) ∧ Below b w w'
/-- What a step leaves. -/
def Went (b : Nat) (w : World) (r : Step) (e : Ending) (w' : World) : Prop := match r with
 | .ok s => e = .returned (.bool true) ∧ SC w' b s.1 s.2 ∧ Below b w w'
 | .error m => Wrong b m.1 w e w'
section
variable {q : ByteArray → ByteArray} {w0 w : World} {b : Nat} {a d lt : Int} {v : Value} {wd ft : ByteArray} {st : List Br}
set_option maxRecDepth 100000 in
set_option maxHeartbeats 4000000 in
theorem sWrongS (c : Int) (what : ByteArray) (hG : G q w0) (hW : Below w0.heap.size w0 w) (hb0 : w0.heap.size ≤ b) (h : SCW w b a v d wd lt ft st) (h0 : 0 ≤ c) (h1 : c < 256) (hw : what.size ≤ 10000) :
  Calls Tryd.prog 58 #[.pointer (some ⟨b, 0, none⟩), .int .u8 c, .string what] w fun e w' => e = .returned (.bool false) ∧ SCW w' b a v d wd lt (badWords q c what) st ∧ Below b w w' := by
 have hs := quoted_size q c w0 hG h0 h1
 have HQ := Aside0.mk (sQuoted q c w (hG.below hW) h0 h1)
 have H := Aside0.mk h
 have hsz := h.size
 clear hG hW h
 go_enter Tryd.func58, Tryd.ntmps58
 go_wp2_with fail
 with_reducible refine HQ.out.mono ?_
 rintro e w1 ⟨rfl, hb1⟩
 have H1 := H.out.below hb1
 obtain ⟨_, _, _, _, _, k5⟩ := H1.cells
 have f5 := H1.free 5
 have HB := Aside0.mk hb1
 have HH := Aside0.mk H1
 clear hb1 H1
 go_wp2_with fail
 go_ret
 exact ⟨rfl, HH.out.put5 _, (HB.out.mono (Nat.le_of_lt hsz)).setCell (Nat.le_refl _) _⟩
theorem sWrong (c : Int) (what : ByteArray) (hG : G q w0) (hW : Below w0.heap.size w0 w) (hb0 : w0.heap.size ≤ b) (h : SCW w b a v d wd lt ft st) (h0 : 0 ≤ c) (h1 : c < 256) (hw : what.size ≤ 10000) :
  Calls Tryd.prog 58 #[.pointer (some ⟨b, 0, none⟩), .int .u8 c, .string what] w (Wrong b (badWords q c what) w) :=
 (sWrongS c what hG hW hb0 h h0 h1 hw).mono fun e w' ⟨h2, h3, h4⟩ => ⟨h2, h3.cells.2.2.2.2.2, h4⟩
theorem SCW.drew (h : SCW w b a v d wd lt ft st) : SCW w.drew b a v d wd lt ft st := ⟨h.blk, h.own⟩
set_option maxRecDepth 100000 in
set_option maxHeartbeats 4000000 in
theorem sClosed (A : Option Addr) (c : Nat) (h : SCW w b a (.slice A st.length c) d wd lt ft st) (hl : st.length ≤ 20000) :
  Calls Tryd.prog 60 #[.pointer (some ⟨b, 0, none⟩)] w fun e w' => e = .returned (.tuple #[]) ∧ SC w' b (closed st).1 (closed st).2 ∧ Below b w w' := by
 obtain ⟨k0, k1, z2, z3, z4, z5⟩ := h.cells
 have f0 := h.free 0
 clear z2 z3 z4 z5
 rcases st with _ | ⟨x, r⟩
 ·have H := Aside0.mk h
  rw [List.length_nil] at k1
  clear h hl
  go_enter Tryd.func60, Tryd.ntmps60
  go_wp2
  go_end0
  exact ⟨rfl, ⟨7, A, c, d, wd, lt, ft, rfl, H.out.put0 7⟩, bset (Below.refl _ _) (Nat.le_refl _)⟩
 ·obtain ⟨g, rfl, hbg, hgs, hcap, kg, fg, hput, hrow⟩ := h.row
  have hne : (b == g) = false := beq_eq_false_iff_ne.mpr (by omega)
  have hne2 : (g == b) = false := beq_eq_false_iff_ne.mpr (by omega)
  have H := Aside0.mk h
  have HP := Aside0.mk hput
  rw [List.length_cons] at hl hcap k1
  clear h hput hrow
  cases x with
  | obj =>
   have kg2 : w.cell? ⟨g, r.length, none⟩ = some (.int .u8 123) := kg
   clear kg
   go_enter Tryd.func60, Tryd.ntmps60
   go_wp2
   go_end0
   exact ⟨rfl, ⟨5, _, c, d, wd, lt, ft, rfl, (H.out.put0 7).put0 5⟩, bset (bset (Below.refl _ _) (Nat.le_refl _)) (Nat.le_refl _)⟩
  | arr =>
   have kg2 : w.cell? ⟨g, r.length, none⟩ = some (.int .u8 91) := kg
   clear kg
   go_enter Tryd.func60, Tryd.ntmps60
   go_wp2
   go_end0
   exact ⟨rfl, ⟨6, _, c, d, wd, lt, ft, rfl, (H.out.put0 7).put0 6⟩, bset (bset (Below.refl _ _) (Nat.le_refl _)) (Nat.le_refl _)⟩
  | key =>
   have kg2 : w.cell? ⟨g, r.length, none⟩ = some (.int .u8 58) := kg
   clear kg
   go_enter Tryd.func60, Tryd.ntmps60
   go_wp2
   go_end0
   obtain ⟨g2, e2, _, _, _, _, _, hp, _⟩ := (H.out.put0 7).row
   cases e2
   exact ⟨rfl, ⟨4, _, c, d, wd, lt, ft, rfl, (hp .obj).put0 4⟩, bset (bset (bset (Below.refl _ _) (Nat.le_refl _)) (Nat.le_of_lt hbg)) (Nat.le_refl _)⟩
set_option maxRecDepth 100000 in
set_option maxHeartbeats 4000000 in
theorem sShut (A : Option Addr) (c : Nat) (x : Br) (r : List Br) (h : SCW w b a (.slice A (x :: r).length c) d wd lt ft (x :: r)) (hl : (x :: r).length ≤ 20000) :
  Calls Tryd.prog 56 #[.pointer (some ⟨b, 0, none⟩)] w fun e w' => e = .returned (.bool true) ∧ SC w' b (closed r).1 (closed r).2 ∧ Below b w w' := by
 obtain ⟨k0, k1, z2, z3, z4, z5⟩ := h.cells
 have f1 := h.free 1
 obtain ⟨g, rfl, hbg, hgs, hcap, kg, fg, hput, hrow⟩ := h.row
 have H := Aside0.mk h
 have HR := Aside0.mk hrow
 rw [List.length_cons] at hl hcap k1
 clear z2 z3 z4 z5 h hput hrow k0 kg fg
 go_enter Tryd.func56, Tryd.ntmps56
 go_upto_region 1 with (fail)
 go_region
 have H2 := (H.out.put1 HR.out).drew
 have HB : Below b w (w.setCell { block := b, off := 1 } (Value.slice (some { block := g, off := 0 }) r.length c)).drew := (bset (Below.refl _ _) (Nat.le_refl _)).drew
 have HH := Aside0.mk H2
 have HC := Aside0.mk (sClosed _ c H2 (by omega))
 have HBB := Aside0.mk HB
 clear H2 HB
 go_wp2_with fail
 with_reducible refine HC.out.mono ?_
 rintro e w1 ⟨rfl, hs, hb1⟩
 have HS := Aside0.mk hs
 have HB1 := Aside0.mk (HBB.out.trans hb1)
 clear hs hb1
 go_wp2_with fail
 go_ret
 exact ⟨rfl, HS.out, HB1.out⟩
set_option maxRecDepth 100000 in
set_option maxHeartbeats 4000000 in
theorem sName (A : Option Addr) (cc : Nat) (c : Int) (x : Br) (r : List Br) (hG : G q w0) (hW : Below w0.heap.size w0 w) (hb0 : w0.heap.size ≤ b) (h : SCW w b a (.slice A (x :: r).length cc) d wd lt ft (x :: r)) (h0 : 0 ≤ c) (h1 : c < 256) (hl : (x :: r).length ≤ 20000) :
  Calls Tryd.prog 57 #[.pointer (some ⟨b, 0, none⟩), .int .u8 c] w (Went b w (nameOf q c (x :: r))) := by
 by_cases hc : c = 34
 ·subst hc
  obtain ⟨k0, k1, z2, z3, z4, z5⟩ := h.cells
  have f0 := h.free 0
  obtain ⟨g, rfl, hbg, hgs, hcap, kg, fg, hput, hrow⟩ := h.row
  have HP := Aside0.mk hput
  rw [List.length_cons] at hl hcap k1
  clear z2 z3 z4 z5 h hput hrow hG hW
  go_enter Tryd.func57, Tryd.ntmps57
  go_upto_region 3 with (fail)
  go_region
  go_wp2_with fail
  go_ret
  exact ⟨rfl, ⟨8, _, cc, d, wd, lt, ft, rfl, ((HP.out .key).drew).put0 8⟩, bset (bset (Below.refl _ _) (Nat.le_of_lt hbg)).drew (Nat.le_refl _)⟩
 ·have e1 : (c != 34) = true := bne_iff_ne.mpr hc
  have HC := Aside0.mk (sWrong (q := q) c wKey hG hW hb0 h h0 h1 (by decide))
  have HE : Aside0 (nameOf q c (x :: r) = .error (badWords q c wKey, false)) := ⟨if_neg hc⟩
  clear hG hW h hc
  go_enter Tryd.func57, Tryd.ntmps57
  go_wp2_with fail
  with_reducible refine HC.out.mono ?_
  rintro e w1 ⟨rfl, hs, hb1⟩
  have HS := Aside0.mk hs
  have HB1 := Aside0.mk hb1
  clear hs hb1
  go_wp2_with fail
  go_ret
  rw [HE.out]
  exact ⟨rfl, HS.out, HB1.out⟩
end
end Go.Proofs.YtbikiibpjdiaaaaDoor.Err
/- The reference's scanner: the first byte of a value, what stands between values. -/
namespace Go.Proofs.YtbikiibpjdiaaaaDoor.Err
open Go.RowKit Go.Proofs.YtbikiibpjdiaaaaDoorW.PrintWords Go.Proofs.YtbikiibpjdiaaaaDoorW.PrintLast Go.Proofs.YtbikiibpjdiaaaaDoorW.PrintMore
open Go.Proofs.YtbikiibpjdiaaaaDoor.Dig Go.Proofs.YtbikiibpjdiaaaaDoor.Tab Go.Proofs.YtbikiibpjdiaaaaDoor.QL
set_option linter.unusedVariables false
theorem sBlank (c : Int) (w : World) : Calls Tryd.prog 29 #[.int .u8 c] w fun e w' => e = .returned (.bool (decide (isBlank c))) ∧ Drawn0 w w' := spec_blank.calls c _ w (by
  unfold spec_blank.f isBlank
  by_cases h : c = 13
  ·subst h; decide
  ·have e : (c == 13) = false := beq_eq_false_iff_ne.mpr h
   rw [e]
   repeat' split
   all_goals simp_all)
theorem sDigit_f (c : Int) : spec_digit.f c = some (decide (isDig c)) := by
 unfold spec_digit.f
 by_cases h : c ≥ 48
 ·by_cases h2 : c ≤ 57
  ·simp [h, h2, isDig]
  ·simp [h, h2, isDig]
 ·simp [h, isDig]
theorem sDigit (c : Int) (w : World) : Calls Tryd.prog 61 #[.int .u8 c] w fun e w' => e = .returned (.bool (decide (isDig c))) ∧ Drawn0 w w' := spec_digit.calls c _ w (sDigit_f c)
theorem sHex (c : Int) (h0 : 0 ≤ c) (h1 : c < 256) (w : World) : Calls Tryd.prog 59 #[.int .u8 c] w fun e w' => e = .returned (.bool (decide (isHex c))) ∧ Drawn0 w w' := spec_hexDigit.calls c _ w (by
 have hall : ∀ n : Fin 256, spec_hexDigit.f ((n.val : Nat) : Int) = some (decide (isHex ((n.val : Nat) : Int))) := by decide +kernel
 have := hall ⟨c.toNat, by omega⟩
 simpa [Int.toNat_of_nonneg h0] using this)
theorem blk_c {w : World} {b : Nat} {v0 v1 v2 v3 v4 v5 : Value} {t : TypeId} (h : w.heap[b]? = some (.cells #[v0, v1, v2, v3, v4, v5] t (0, 0))) : w.cell? ⟨b, 0, none⟩ = some v0 ∧ w.cell? ⟨b, 1, none⟩ = some v1 ∧ w.frozen? ⟨b, 0, none⟩ = false ∧ w.frozen? ⟨b, 1, none⟩ = false := by
 refine ⟨?_, ?_, ?_, ?_⟩ <;> simp [World.cell?, World.frozen?, h]
/-- A bracket put behind those that are open, and where the scanner stands then. -/
theorem push_done {w1 : World} {b : Nat} {A1 : Option Addr} {cc1 : Nat} {a d lt x : Int} {v : Value} {wd ft : ByteArray} {st : List Br} (hbk : w1.heap[b]? = some (.cells #[.int .i64 a, v, .int .i64 d, .string wd, .int .i64 lt, .string ft] 58 (0, 0)))
  (ho : w1.ownsRow (b + 1) 5 1 (.slice A1 (stB st ++ [x]).length cc1) (stB st ++ [x]).length (nums .u8 (stB st ++ [x]))) (br : Br) (hx : brB br = x) (num : Int) :
  SCW ((w1.setCell ⟨b, 1, none⟩ (.slice A1 ((stB st).length + 1) cc1)).setCell ⟨b, 0, none⟩ (.int .i64 num)) b num (.slice A1 (br :: st).length cc1) d wd lt ft (br :: st) := by
 subst hx
 have e : (stB st).length + 1 = (br :: st).length := by rw [stB_len]; rfl
 rw [← stB_cons, stB_len] at ho
 rw [e]
 refine SCW.put0 (a := a) ⟨?_, own_setb ho 1 _⟩ num
 have := heap_setCell_same w1 b 1 _ 58 (.slice A1 (br :: st).length cc1) hbk
 simpa using this
section
variable {q : ByteArray → ByteArray} {w0 w : World} {b : Nat} {a d lt : Int} {v : Value} {wd ft : ByteArray} {st : List Br}
set_option maxRecDepth 100000 in
set_option maxHeartbeats 8000000 in
theorem sBegin (A : Option Addr) (cc : Nat) (c : Int) (hG : G q w0) (hW : Below w0.heap.size w0 w) (hb0 : w0.heap.size ≤ b) (h : SCW w b a (.slice A st.length cc) d wd lt ft st) (h0 : 0 ≤ c) (h1 : c < 256) (hl : st.length ≤ 20000) :
  Calls Tryd.prog 55 #[.pointer (some ⟨b, 0, none⟩), .int .u8 c] w (Went b w (begin_ q c st)) := by
 obtain ⟨k0, k1, z2, k3, k4, z5⟩ := h.cells
 have f0 := h.free 0
 have f1 := h.free 1
 have f3 := h.free 3
 have f4 := h.free 4
 have hsz := h.size
 have H := Aside0.mk h
 have HW : Aside0 (∀ m : Nat, Calls Tryd.prog 58 #[.pointer (some ⟨b, 0, none⟩), .int .u8 c, .string wValue] (w.drewN m) (Wrong b (badWords q c wValue) (w.drewN m))) := ⟨fun m => sWrong (q := q) c wValue hG (pw_below_drewN hW m) hb0 (h.drewN m) h0 h1 (by decide)⟩
 have HO := Aside0.mk (show w.ownsRow (b + 1) 5 1 (.slice A st.length cc) (stB st).length (nums .u8 (stB st)) by rw [stB_len]; exact h.own)
 have HL := Aside0.mk (stB_len st)
 have HS : Aside0 (b + 1 ≤ w.heap.size) := ⟨hsz⟩
 clear hG hW h z2 z5
 by_cases c123 : c = 123
 ·subst c123
  clear f3 f4 k3 k4 k0 f0 HW
  have HE : Aside0 (begin_ q 123 st = .ok (.name0, .obj :: st)) := ⟨rfl⟩
  go_enter Tryd.func55, Tryd.ntmps55
  go_wp2_with (first | ((with_reducible refine gate_builtin (b := .append) (xs := #[.tmp 15, .tmp 16]) rfl ?_); at_builtin; refine print_append_num (w0 := w) (b + 1) rfl (.tmp 15) (.tmp 16) 22 5 .u8 1 rfl Tryd.underlying22 (by kernel_rfl) (by omega) _ (stB st) 123 rfl rfl ?aO ?aB ?aS ?aL ?_; (case aO => exact HO.out); (case aB => exact Below.refl _ _); (case aS => exact HS.out); (case aL => rw [HL.out]; omega); intro v1 w1 ho hb2 hg hat; obtain ⟨A1, cc1, rfl, hrd⟩ := own_reads ho; have HO1 := Aside0.mk ho; have hbk := (hb2.block b (by omega)).trans H.out.blk; obtain ⟨m0, m1, n0, n1⟩ := blk_c hbk; have HBK := Aside0.mk hbk; have HB2 := Aside0.mk hb2; clear ho hbk hb2 hg hat hrd))
  go_ret
  rw [HE.out]
  exact ⟨rfl, ⟨_, A1, cc1, d, wd, lt, ft, rfl, push_done HBK.out HO1.out .obj rfl 2⟩, bset (bset (HB2.out.mono (Nat.le_succ b)) (Nat.le_refl _)) (Nat.le_refl _)⟩
 by_cases c91 : c = 91
 ·subst c91
  clear f3 f4 k3 k4 k0 f0 HW
  have HE : Aside0 (begin_ q 91 st = .ok (.item0, .arr :: st)) := ⟨rfl⟩
  go_enter Tryd.func55, Tryd.ntmps55
  go_wp2_with (first | ((with_reducible refine gate_builtin (b := .append) (xs := #[.tmp 30, .tmp 31]) rfl ?_); at_builtin; refine print_append_num (w0 := w) (b + 1) rfl (.tmp 30) (.tmp 31) 22 5 .u8 1 rfl Tryd.underlying22 (by kernel_rfl) (by omega) _ (stB st) 91 rfl rfl ?aO ?aB ?aS ?aL ?_; (case aO => exact HO.out); (case aB => exact Below.refl _ _); (case aS => exact HS.out); (case aL => rw [HL.out]; omega); intro v1 w1 ho hb2 hg hat; obtain ⟨A1, cc1, rfl, hrd⟩ := own_reads ho; have HO1 := Aside0.mk ho; have hbk := (hb2.block b (by omega)).trans H.out.blk; obtain ⟨m0, m1, n0, n1⟩ := blk_c hbk; have HBK := Aside0.mk hbk; have HB2 := Aside0.mk hb2; clear ho hbk hb2 hg hat hrd))
  go_ret
  rw [HE.out]
  exact ⟨rfl, ⟨_, A1, cc1, d, wd, lt, ft, rfl, push_done HBK.out HO1.out .arr rfl 1⟩, bset (bset (HB2.out.mono (Nat.le_succ b)) (Nat.le_refl _)) (Nat.le_refl _)⟩
 by_cases c34 : c = 34
 ·subst c34
  clear f3 f4 k3 k4 k1 f1 HW HO
  have HE : Aside0 (begin_ q 34 st = .ok (.text, st)) := ⟨rfl⟩
  go_enter Tryd.func55, Tryd.ntmps55
  go_wp2_with fail
  go_ret
  rw [HE.out]
  exact ⟨rfl, ⟨_, A, cc, d, wd, lt, ft, rfl, H.out.put0 8⟩, bset (Below.refl _ _) (Nat.le_refl _)⟩
 by_cases c45 : c = 45
 ·subst c45
  clear f3 f4 k3 k4 k1 f1 HW HO
  have HE : Aside0 (begin_ q 45 st = .ok (.minus, st)) := ⟨rfl⟩
  go_enter Tryd.func55, Tryd.ntmps55
  go_wp2_with fail
  go_ret
  rw [HE.out]
  exact ⟨rfl, ⟨_, A, cc, d, wd, lt, ft, rfl, H.out.put0 11⟩, bset (Below.refl _ _) (Nat.le_refl _)⟩
 by_cases c48 : c = 48
 ·subst c48
  clear f3 f4 k3 k4 k1 f1 HW HO
  have HE : Aside0 (begin_ q 48 st = .ok (.zero, st)) := ⟨rfl⟩
  go_enter Tryd.func55, Tryd.ntmps55
  go_wp2_with fail
  go_ret
  rw [HE.out]
  exact ⟨rfl, ⟨_, A, cc, d, wd, lt, ft, rfl, H.out.put0 12⟩, bset (Below.refl _ _) (Nat.le_refl _)⟩
 by_cases cd : isDig c
 ·have HE : Aside0 (begin_ q c st = .ok (.whole, st)) := ⟨by unfold begin_; rw [if_neg c123, if_neg c91, if_neg c34, if_neg c45, if_neg c48, if_pos cd]⟩
  have HD : Aside0 (Calls Tryd.prog 61 #[.int .u8 c] w fun e w' => e = .returned (.bool true) ∧ Drawn0 w w') := ⟨by have := sDigit c w; rw [decide_eq_true cd] at this; exact this⟩
  have e123 : (c == 123) = false := beq_eq_false_iff_ne.mpr c123
  have e91 : (c == 91) = false := beq_eq_false_iff_ne.mpr c91
  have e34 : (c == 34) = false := beq_eq_false_iff_ne.mpr c34
  have e45 : (c == 45) = false := beq_eq_false_iff_ne.mpr c45
  have e48 : (c == 48) = false := beq_eq_false_iff_ne.mpr c48
  clear f3 f4 k3 k4 k1 f1 HW HO cd c123 c91 c34 c45 c48
  go_enter Tryd.func55, Tryd.ntmps55
  go_wp2_with fail
  with_reducible refine HD.out.mono ?_
  rintro e w1 ⟨rfl, ⟨m1, rfl⟩⟩
  go_wp2_with fail
  go_ret
  rw [HE.out]
  exact ⟨rfl, ⟨_, A, cc, d, wd, lt, ft, rfl, (H.out.drewN m1).put0 13⟩, bset (pw_below_drewN (Below.refl _ _) _) (Nat.le_refl _)⟩
 by_cases c116 : c = 116
 ·subst c116
  clear k1 f1 HW HO
  have HD : Aside0 (Calls Tryd.prog 61 #[.int .u8 116] w fun e w' => e = .returned (.bool false) ∧ Drawn0 w w') := ⟨sDigit 116 w⟩
  have HE : Aside0 (begin_ q 116 st = .ok (.word lTrue 1, st)) := ⟨rfl⟩
  go_enter Tryd.func55, Tryd.ntmps55
  go_wp2_with fail
  with_reducible refine HD.out.mono ?_
  rintro e w1 ⟨rfl, ⟨m1, rfl⟩⟩
  go_wp2_with fail
  go_ret
  rw [HE.out]
  exact ⟨rfl, ⟨_, A, cc, d, _, _, ft, ⟨rfl, rfl, rfl, .inl rfl, by decide, by decide⟩, (((H.out.drewN m1).put0 19).put3 (litBytes lTrue)).put4 1⟩, bset (bset (bset (pw_below_drewN (Below.refl _ _) _) (Nat.le_refl _)) (Nat.le_refl _)) (Nat.le_refl _)⟩
 by_cases c102 : c = 102
 ·subst c102
  clear k1 f1 HW HO
  have HD : Aside0 (Calls Tryd.prog 61 #[.int .u8 102] w fun e w' => e = .returned (.bool false) ∧ Drawn0 w w') := ⟨sDigit 102 w⟩
  have HE : Aside0 (begin_ q 102 st = .ok (.word lFalse 1, st)) := ⟨rfl⟩
  go_enter Tryd.func55, Tryd.ntmps55
  go_wp2_with fail
  with_reducible refine HD.out.mono ?_
  rintro e w1 ⟨rfl, ⟨m1, rfl⟩⟩
  go_wp2_with fail
  go_ret
  rw [HE.out]
  exact ⟨rfl, ⟨_, A, cc, d, _, _, ft, ⟨rfl, rfl, rfl, .inr (.inl rfl), by decide, by decide⟩, (((H.out.drewN m1).put0 19).put3 (litBytes lFalse)).put4 1⟩, bset (bset (bset (pw_below_drewN (Below.refl _ _) _) (Nat.le_refl _)) (Nat.le_refl _)) (Nat.le_refl _)⟩
 by_cases c110 : c = 110
 ·subst c110
  clear k1 f1 HW HO
  have HD : Aside0 (Calls Tryd.prog 61 #[.int .u8 110] w fun e w' => e = .returned (.bool false) ∧ Drawn0 w w') := ⟨sDigit 110 w⟩
  have HE : Aside0 (begin_ q 110 st = .ok (.word lNull 1, st)) := ⟨rfl⟩
  go_enter Tryd.func55, Tryd.ntmps55
  go_wp2_with fail
  with_reducible refine HD.out.mono ?_
  rintro e w1 ⟨rfl, ⟨m1, rfl⟩⟩
  go_wp2_with fail
  go_ret
  rw [HE.out]
  exact ⟨rfl, ⟨_, A, cc, d, _, _, ft, ⟨rfl, rfl, rfl, .inr (.inr rfl), by decide, by decide⟩, (((H.out.drewN m1).put0 19).put3 (litBytes lNull)).put4 1⟩, bset (bset (bset (pw_below_drewN (Below.refl _ _) _) (Nat.le_refl _)) (Nat.le_refl _)) (Nat.le_refl _)⟩
 have HE : Aside0 (begin_ q c st = .error (badWords q c wValue, true)) := ⟨by unfold begin_; rw [if_neg c123, if_neg c91, if_neg c34, if_neg c45, if_neg c48, if_neg cd, if_neg c116, if_neg c102, if_neg c110]⟩
 have HD : Aside0 (Calls Tryd.prog 61 #[.int .u8 c] w fun e w' => e = .returned (.bool false) ∧ Drawn0 w w') := ⟨by have := sDigit c w; rw [decide_eq_false cd] at this; exact this⟩
 have e123 : (c == 123) = false := beq_eq_false_iff_ne.mpr c123
 have e91 : (c == 91) = false := beq_eq_false_iff_ne.mpr c91
 have e34 : (c == 34) = false := beq_eq_false_iff_ne.mpr c34
 have e45 : (c == 45) = false := beq_eq_false_iff_ne.mpr c45
 have e48 : (c == 48) = false := beq_eq_false_iff_ne.mpr c48
 have e116 : (c == 116) = false := beq_eq_false_iff_ne.mpr c116
 have e102 : (c == 102) = false := beq_eq_false_iff_ne.mpr c102
 have e110 : (c == 110) = false := beq_eq_false_iff_ne.mpr c110
 clear f3 f4 k3 k4 k1 f1 k0 f0 HO cd c123 c91 c34 c45 c48 c116 c102 c110
 go_enter Tryd.func55, Tryd.ntmps55
 go_wp2_with fail
 with_reducible refine HD.out.mono ?_
 rintro e w1 ⟨rfl, ⟨m1, rfl⟩⟩
 go_wp2_with fail
 with_reducible refine (HW.out _).mono ?_
 rintro e w2 ⟨rfl, hs, hb1⟩
 have HS2 := Aside0.mk hs
 have HB1 := Aside0.mk hb1
 clear hs hb1
 go_wp2_with fail
 go_ret
 rw [HE.out]
 exact ⟨rfl, HS2.out, (pw_below_drewN (Below.refl _ _) _).trans HB1.out⟩
end
end Go.Proofs.YtbikiibpjdiaaaaDoor.Err
/- The reference's scanner: a byte between values. -/
namespace Go.Proofs.YtbikiibpjdiaaaaDoor.Err
open Go.RowKit Go.Proofs.YtbikiibpjdiaaaaDoorW.PrintWords Go.Proofs.YtbikiibpjdiaaaaDoorW.PrintLast Go.Proofs.YtbikiibpjdiaaaaDoorW.PrintMore
open Go.Proofs.YtbikiibpjdiaaaaDoor.Dig Go.Proofs.YtbikiibpjdiaaaaDoor.Tab Go.Proofs.YtbikiibpjdiaaaaDoor.QL
set_option linter.unusedVariables false
/-- The places between values. -/
def btw : Ph → Bool
 | .val | .item0 | .name0 | .name | .colon | .memb | .item | .all => true
 | _ => false
/-- Where a bracket has to be open, one is. -/
def WF : Ph → List Br → Prop
 | .item0, st | .name0, st | .name, st | .colon, st | .memb, st | .item, st => st ≠ []
 | _, _ => True
theorem went_bool {b : Nat} {w w' : World} {r : Step} {e : Ending} (h : Went b w r e w') : ∃ B : Bool, e = .returned (.bool B) ∧ Aside0 (Went b w r (.returned (.bool B)) w') := by
 cases r with
 | ok s =>
  obtain ⟨rfl, h1⟩ := h
  exact ⟨true, rfl, ⟨rfl, h1⟩⟩
 | error m =>
  obtain ⟨rfl, h1⟩ := h
  exact ⟨false, rfl, ⟨rfl, h1⟩⟩
theorem went_from {b : Nat} {w w1 w' : World} {r : Step} {e : Ending} (hb : Below b w w1) (h : Went b w1 r e w') : Went b w r e w' := by
 cases r with
 | ok s => exact ⟨h.1, h.2.1, hb.trans h.2.2⟩
 | error m => exact ⟨h.1, h.2.1, hb.trans h.2.2⟩
theorem went_shut {b : Nat} {w w' : World} {r : List Br} {e : Ending} (h : e = .returned (.bool true) ∧ SC w' b (closed r).1 (closed r).2 ∧ Below b w w') : Went b w (.ok (closed r)) e w' := h
theorem went_wrong {b : Nat} {w w' : World} {m : ByteArray} {f : Bool} {e : Ending} (h : Wrong b m w e w') : Went b w (.error (m, f)) e w' := h
theorem drewB {b : Nat} {w : World} (m : Nat) : Below b w (w.drewN m) := pw_below_drewN (Below.refl _ _) m
section
variable {q : ByteArray → ByteArray} {w0 w : World} {b : Nat} {a d lt : Int} {v : Value} {wd ft : ByteArray} {st : List Br}
set_option maxRecDepth 100000 in
set_option maxHeartbeats 16000000 in
theorem sBetween (ph : Ph) (A : Option Addr) (cc : Nat) (c : Int) (hbt : btw ph = true) (hI : PhI ph a d wd lt) (hwf : WF ph st) (hG : G q w0) (hW : Below w0.heap.size w0 w) (hb0 : w0.heap.size ≤ b) (h : SCW w b a (.slice A st.length cc) d wd lt ft st) (h0 : 0 ≤ c) (h1 : c < 256) (hl : st.length ≤ 20000) :
  Calls Tryd.prog 43 #[.pointer (some ⟨b, 0, none⟩), .int .u8 c] w (Went b w (between q c ph st)) := by
 obtain ⟨k0, z1, z2, z3, z4, z5⟩ := h.cells
 have f0 := h.free 0
 clear z1 z2 z3 z4 z5
 by_cases hbk : isBlank c
 ·have HE : Aside0 (between q c ph st = .ok (ph, st)) := ⟨by unfold between; rw [if_pos hbk]⟩
  have HK : Aside0 (Calls Tryd.prog 29 #[.int .u8 c] w fun e w' => e = .returned (.bool true) ∧ Drawn0 w w') := ⟨by have := sBlank c w; rw [decide_eq_true hbk] at this; exact this⟩
  have H := Aside0.mk h
  have HI := Aside0.mk hI
  clear hbk hG hW h hI hwf
  go_enter Tryd.func43, Tryd.ntmps43
  go_wp2_with fail
  with_reducible refine HK.out.mono ?_
  rintro e w1 ⟨rfl, ⟨m1, rfl⟩⟩
  go_wp2_with fail
  go_ret
  rw [HE.out]
  exact ⟨rfl, ⟨a, A, cc, d, wd, lt, ft, HI.out, H.out.drewN m1⟩, drewB m1⟩
 ·have HK : Aside0 (Calls Tryd.prog 29 #[.int .u8 c] w fun e w' => e = .returned (.bool false) ∧ Drawn0 w w') := ⟨by have := sBlank c w; rw [decide_eq_false hbk] at this; exact this⟩
  cases ph
  case val =>
   cases hI
   have HE : Aside0 (between q c .val st = begin_ q c st) := ⟨by unfold between; rw [if_neg hbk]⟩
   have HC : Aside0 (∀ m : Nat, Calls Tryd.prog 55 #[.pointer (some ⟨b, 0, none⟩), .int .u8 c] (w.drewN m) (Went b (w.drewN m) (begin_ q c st))) := ⟨fun m => sBegin A cc c hG (pw_below_drewN hW m) hb0 (h.drewN m) h0 h1 hl⟩
   clear hG hW h hwf hbk
   go_enter Tryd.func43, Tryd.ntmps43
   go_wp2_with fail
   with_reducible refine HK.out.mono ?_
   rintro e w1 ⟨rfl, ⟨m1, rfl⟩⟩
   go_wp2_with fail
   with_reducible refine (HC.out _).mono ?_
   rintro e w2 hw
   obtain ⟨B, rfl, HB⟩ := went_bool (hw)
   clear hw
   go_wp2_with fail
   go_ret
   rw [HE.out]
   exact went_from (drewB m1) HB.out
  case item0 =>
   cases hI
   obtain ⟨x, r, rfl⟩ : ∃ x r, st = x :: r := by
    cases st with
    | nil => exact absurd rfl hwf
    | cons x r => exact ⟨x, r, rfl⟩
   by_cases c93 : c = 93
   ·subst c93
    have HE : Aside0 (between q 93 .item0 (x :: r) = .ok (closed r)) := ⟨by unfold between; rw [if_neg hbk]; exact if_pos rfl⟩
    have HC : Aside0 (∀ m : Nat, Calls Tryd.prog 56 #[.pointer (some ⟨b, 0, none⟩)] (w.drewN m) fun e w' => e = .returned (.bool true) ∧ SC w' b (closed r).1 (closed r).2 ∧ Below b (w.drewN m) w') := ⟨fun m => sShut A cc x r (h.drewN m) hl⟩
    clear hG hW h hwf hbk
    go_enter Tryd.func43, Tryd.ntmps43
    go_wp2_with fail
    with_reducible refine HK.out.mono ?_
    rintro e w1 ⟨rfl, ⟨m1, rfl⟩⟩
    go_wp2_with fail
    with_reducible refine (HC.out _).mono ?_
    rintro e w2 hw
    obtain ⟨B, rfl, HB⟩ := went_bool (went_shut hw)
    clear hw
    go_wp2_with fail
    go_ret
    rw [HE.out]
    exact went_from (drewB m1) HB.out
   ·have HE : Aside0 (between q c .item0 (x :: r) = begin_ q c (x :: r)) := ⟨by unfold between; rw [if_neg hbk]; exact if_neg c93⟩
    have HC : Aside0 (∀ m : Nat, Calls Tryd.prog 55 #[.pointer (some ⟨b, 0, none⟩), .int .u8 c] (w.drewN m) (Went b (w.drewN m) (begin_ q c (x :: r)))) := ⟨fun m => sBegin A cc c hG (pw_below_drewN hW m) hb0 (h.drewN m) h0 h1 hl⟩
    have e93 : (c == 93) = false := beq_eq_false_iff_ne.mpr c93
    clear hG hW h hwf hbk
    go_enter Tryd.func43, Tryd.ntmps43
    go_wp2_with fail
    with_reducible refine HK.out.mono ?_
    rintro e w1 ⟨rfl, ⟨m1, rfl⟩⟩
    go_wp2_with fail
    with_reducible refine (HC.out _).mono ?_
    rintro e w2 hw
    obtain ⟨B, rfl, HB⟩ := went_bool (hw)
    clear hw
    go_wp2_with fail
    go_ret
    rw [HE.out]
    exact went_from (drewB m1) HB.out
  case name0 =>
   cases hI
   obtain ⟨x, r, rfl⟩ : ∃ x r, st = x :: r := by
    cases st with
    | nil => exact absurd rfl hwf
    | cons x r => exact ⟨x, r, rfl⟩
   by_cases c125 : c = 125
   ·subst c125
    have HE : Aside0 (between q 125 .name0 (x :: r) = .ok (closed r)) := ⟨by unfold between; rw [if_neg hbk]; exact if_pos rfl⟩
    have HC : Aside0 (∀ m : Nat, Calls Tryd.prog 56 #[.pointer (some ⟨b, 0, none⟩)] (w.drewN m) fun e w' => e = .returned (.bool true) ∧ SC w' b (closed r).1 (closed r).2 ∧ Below b (w.drewN m) w') := ⟨fun m => sShut A cc x r (h.drewN m) hl⟩
    clear hG hW h hwf hbk
    go_enter Tryd.func43, Tryd.ntmps43
    go_wp2_with fail
    with_reducible refine HK.out.mono ?_
    rintro e w1 ⟨rfl, ⟨m1, rfl⟩⟩
    go_wp2_with fail
    with_reducible refine (HC.out _).mono ?_
    rintro e w2 hw
    obtain ⟨B, rfl, HB⟩ := went_bool (went_shut hw)
    clear hw
    go_wp2_with fail
    go_ret
    rw [HE.out]
    exact went_from (drewB m1) HB.out
   ·have HE : Aside0 (between q c .name0 (x :: r) = nameOf q c (x :: r)) := ⟨by unfold between; rw [if_neg hbk]; exact if_neg c125⟩
    have HC : Aside0 (∀ m : Nat, Calls Tryd.prog 57 #[.pointer (some ⟨b, 0, none⟩), .int .u8 c] (w.drewN m) (Went b (w.drewN m) (nameOf q c (x :: r)))) := ⟨fun m => sName A cc c x r hG (pw_below_drewN hW m) hb0 (h.drewN m) h0 h1 hl⟩
    have e125 : (c == 125) = false := beq_eq_false_iff_ne.mpr c125
    clear hG hW h hwf hbk
    go_enter Tryd.func43, Tryd.ntmps43
    go_wp2_with fail
    with_reducible refine HK.out.mono ?_
    rintro e w1 ⟨rfl, ⟨m1, rfl⟩⟩
    go_wp2_with fail
    with_reducible refine (HC.out _).mono ?_
    rintro e w2 hw
    obtain ⟨B, rfl, HB⟩ := went_bool (hw)
    clear hw
    go_wp2_with fail
    go_ret
    rw [HE.out]
    exact went_from (drewB m1) HB.out
  case name =>
   cases hI
   obtain ⟨x, r, rfl⟩ : ∃ x r, st = x :: r := by
    cases st with
    | nil => exact absurd rfl hwf
    | cons x r => exact ⟨x, r, rfl⟩
   have HE : Aside0 (between q c .name (x :: r) = nameOf q c (x :: r)) := ⟨by unfold between; rw [if_neg hbk]⟩
   have HC : Aside0 (∀ m : Nat, Calls Tryd.prog 57 #[.pointer (some ⟨b, 0, none⟩), .int .u8 c] (w.drewN m) (Went b (w.drewN m) (nameOf q c (x :: r)))) := ⟨fun m => sName A cc c x r hG (pw_below_drewN hW m) hb0 (h.drewN m) h0 h1 hl⟩
   clear hG hW h hwf hbk
   go_enter Tryd.func43, Tryd.ntmps43
   go_wp2_with fail
   with_reducible refine HK.out.mono ?_
   rintro e w1 ⟨rfl, ⟨m1, rfl⟩⟩
   go_wp2_with fail
   with_reducible refine (HC.out _).mono ?_
   rintro e w2 hw
   obtain ⟨B, rfl, HB⟩ := went_bool (hw)
   clear hw
   go_wp2_with fail
   go_ret
   rw [HE.out]
   exact went_from (drewB m1) HB.out
  case colon =>
   cases hI
   by_cases c58 : c = 58
   ·subst c58
    have HE : Aside0 (between q 58 .colon st = .ok (.val, st)) := ⟨by unfold between; rw [if_neg hbk]; exact if_pos rfl⟩
    have H := Aside0.mk h
    clear hG hW h hwf hbk
    go_enter Tryd.func43, Tryd.ntmps43
    go_wp2_with fail
    with_reducible refine HK.out.mono ?_
    rintro e w1 ⟨rfl, ⟨m1, rfl⟩⟩
    go_wp2_with fail
    go_ret
    rw [HE.out]
    exact ⟨rfl, ⟨0, A, cc, d, wd, lt, ft, rfl, (H.out.drewN m1).put0 0⟩, bset (drewB m1) (Nat.le_refl _)⟩
   ·have HE : Aside0 (between q c .colon st = .error (badWords q c wAfterKey, false)) := ⟨by unfold between; rw [if_neg hbk]; exact if_neg c58⟩
    have HC : Aside0 (∀ m : Nat, Calls Tryd.prog 58 #[.pointer (some ⟨b, 0, none⟩), .int .u8 c, .string wAfterKey] (w.drewN m) (Wrong b (badWords q c wAfterKey) (w.drewN m))) := ⟨fun m => sWrong (q := q) c wAfterKey hG (pw_below_drewN hW m) hb0 (h.drewN m) h0 h1 (by decide)⟩
    have e58 : (c != 58) = true := bne_iff_ne.mpr c58
    clear hG hW h hwf hbk
    go_enter Tryd.func43, Tryd.ntmps43
    go_wp2_with fail
    with_reducible refine HK.out.mono ?_
    rintro e w1 ⟨rfl, ⟨m1, rfl⟩⟩
    go_wp2_with fail
    with_reducible refine (HC.out _).mono ?_
    rintro e w2 hw
    obtain ⟨B, rfl, HB⟩ := went_bool (went_wrong (f := false) hw)
    clear hw
    go_wp2_with fail
    go_ret
    rw [HE.out]
    exact went_from (drewB m1) HB.out
  case memb =>
   cases hI
   obtain ⟨x, r, rfl⟩ : ∃ x r, st = x :: r := by
    cases st with
    | nil => exact absurd rfl hwf
    | cons x r => exact ⟨x, r, rfl⟩
   by_cases c44 : c = 44
   ·subst c44
    have HE : Aside0 (between q 44 .memb (x :: r) = .ok (.name, x :: r)) := ⟨by unfold between; rw [if_neg hbk]; exact if_pos rfl⟩
    have H := Aside0.mk h
    clear hG hW h hwf hbk
    go_enter Tryd.func43, Tryd.ntmps43
    go_wp2_with fail
    with_reducible refine HK.out.mono ?_
    rintro e w1 ⟨rfl, ⟨m1, rfl⟩⟩
    go_wp2_with fail
    go_ret
    rw [HE.out]
    exact ⟨rfl, ⟨3, A, cc, d, wd, lt, ft, rfl, (H.out.drewN m1).put0 3⟩, bset (drewB m1) (Nat.le_refl _)⟩
   by_cases c125 : c = 125
   ·subst c125
    have HE : Aside0 (between q 125 .memb (x :: r) = .ok (closed r)) := ⟨by unfold between; rw [if_neg hbk]; exact (if_neg (by decide)).trans (if_pos rfl)⟩
    have HC : Aside0 (∀ m : Nat, Calls Tryd.prog 56 #[.pointer (some ⟨b, 0, none⟩)] (w.drewN m) fun e w' => e = .returned (.bool true) ∧ SC w' b (closed r).1 (closed r).2 ∧ Below b (w.drewN m) w') := ⟨fun m => sShut A cc x r (h.drewN m) hl⟩
    clear hG hW h hwf hbk
    go_enter Tryd.func43, Tryd.ntmps43
    go_wp2_with fail
    with_reducible refine HK.out.mono ?_
    rintro e w1 ⟨rfl, ⟨m1, rfl⟩⟩
    go_wp2_with fail
    with_reducible refine (HC.out _).mono ?_
    rintro e w2 hw
    obtain ⟨B, rfl, HB⟩ := went_bool (went_shut hw)
    clear hw
    go_wp2_with fail
    go_ret
    rw [HE.out]
    exact went_from (drewB m1) HB.out
   ·have HE : Aside0 (between q c .memb (x :: r) = .error (badWords q c wAfterPair, false)) := ⟨by unfold between; rw [if_neg hbk]; exact (if_neg c44).trans (if_neg c125)⟩
    have HC : Aside0 (∀ m : Nat, Calls Tryd.prog 58 #[.pointer (some ⟨b, 0, none⟩), .int .u8 c, .string wAfterPair] (w.drewN m) (Wrong b (badWords q c wAfterPair) (w.drewN m))) := ⟨fun m => sWrong (q := q) c wAfterPair hG (pw_below_drewN hW m) hb0 (h.drewN m) h0 h1 (by decide)⟩
    have e44 : (c == 44) = false := beq_eq_false_iff_ne.mpr c44
    have e125 : (c == 125) = false := beq_eq_false_iff_ne.mpr c125
    clear hG hW h hwf hbk
    go_enter Tryd.func43, Tryd.ntmps43
    go_wp2_with fail
    with_reducible refine HK.out.mono ?_
    rintro e w1 ⟨rfl, ⟨m1, rfl⟩⟩
    go_wp2_with fail
    with_reducible refine (HC.out _).mono ?_
    rintro e w2 hw
    obtain ⟨B, rfl, HB⟩ := went_bool (went_wrong (f := false) hw)
    clear hw
    go_wp2_with fail
    go_ret
    rw [HE.out]
    exact went_from (drewB m1) HB.out
  case item =>
   cases hI
   obtain ⟨x, r, rfl⟩ : ∃ x r, st = x :: r := by
    cases st with
    | nil => exact absurd rfl hwf
    | cons x r => exact ⟨x, r, rfl⟩
   by_cases c44 : c = 44
   ·subst c44
    have HE : Aside0 (between q 44 .item (x :: r) = .ok (.val, x :: r)) := ⟨by unfold between; rw [if_neg hbk]; exact if_pos rfl⟩
    have H := Aside0.mk h
    clear hG hW h hwf hbk
    go_enter Tryd.func43, Tryd.ntmps43
    go_wp2_with fail
    with_reducible refine HK.out.mono ?_
    rintro e w1 ⟨rfl, ⟨m1, rfl⟩⟩
    go_wp2_with fail
    go_ret
    rw [HE.out]
    exact ⟨rfl, ⟨0, A, cc, d, wd, lt, ft, rfl, (H.out.drewN m1).put0 0⟩, bset (drewB m1) (Nat.le_refl _)⟩
   by_cases c93 : c = 93
   ·subst c93
    have HE : Aside0 (between q 93 .item (x :: r) = .ok (closed r)) := ⟨by unfold between; rw [if_neg hbk]; exact (if_neg (by decide)).trans (if_pos rfl)⟩
    have HC : Aside0 (∀ m : Nat, Calls Tryd.prog 56 #[.pointer (some ⟨b, 0, none⟩)] (w.drewN m) fun e w' => e = .returned (.bool true) ∧ SC w' b (closed r).1 (closed r).2 ∧ Below b (w.drewN m) w') := ⟨fun m => sShut A cc x r (h.drewN m) hl⟩
    clear hG hW h hwf hbk
    go_enter Tryd.func43, Tryd.ntmps43
    go_wp2_with fail
    with_reducible refine HK.out.mono ?_
    rintro e w1 ⟨rfl, ⟨m1, rfl⟩⟩
    go_wp2_with fail
    with_reducible refine (HC.out _).mono ?_
    rintro e w2 hw
    obtain ⟨B, rfl, HB⟩ := went_bool (went_shut hw)
    clear hw
    go_wp2_with fail
    go_ret
    rw [HE.out]
    exact went_from (drewB m1) HB.out
   ·have HE : Aside0 (between q c .item (x :: r) = .error (badWords q c wAfterElement, false)) := ⟨by unfold between; rw [if_neg hbk]; exact (if_neg c44).trans (if_neg c93)⟩
    have HC : Aside0 (∀ m : Nat, Calls Tryd.prog 58 #[.pointer (some ⟨b, 0, none⟩), .int .u8 c, .string wAfterElement] (w.drewN m) (Wrong b (badWords q c wAfterElement) (w.drewN m))) := ⟨fun m => sWrong (q := q) c wAfterElement hG (pw_below_drewN hW m) hb0 (h.drewN m) h0 h1 (by decide)⟩
    have e44 : (c == 44) = false := beq_eq_false_iff_ne.mpr c44
    have e93 : (c == 93) = false := beq_eq_false_iff_ne.mpr c93
    clear hG hW h hwf hbk
    go_enter Tryd.func43, Tryd.ntmps43
    go_wp2_with fail
    with_reducible refine HK.out.mono ?_
    rintro e w1 ⟨rfl, ⟨m1, rfl⟩⟩
    go_wp2_with fail
    with_reducible refine (HC.out _).mono ?_
    rintro e w2 hw
    obtain ⟨B, rfl, HB⟩ := went_bool (went_wrong (f := false) hw)
    clear hw
    go_wp2_with fail
    go_ret
    rw [HE.out]
    exact went_from (drewB m1) HB.out
  case all =>
   cases hI
   have HE : Aside0 (between q c .all st = .error (badWords q c wAfterTop, false)) := ⟨by unfold between; rw [if_neg hbk]⟩
   have HC : Aside0 (∀ m : Nat, Calls Tryd.prog 58 #[.pointer (some ⟨b, 0, none⟩), .int .u8 c, .string wAfterTop] (w.drewN m) (Wrong b (badWords q c wAfterTop) (w.drewN m))) := ⟨fun m => sWrong (q := q) c wAfterTop hG (pw_below_drewN hW m) hb0 (h.drewN m) h0 h1 (by decide)⟩
   clear hG hW h hwf hbk
   go_enter Tryd.func43, Tryd.ntmps43
   go_wp2_with fail
   with_reducible refine HK.out.mono ?_
   rintro e w1 ⟨rfl, ⟨m1, rfl⟩⟩
   go_wp2_with fail
   with_reducible refine (HC.out _).mono ?_
   rintro e w2 hw
   obtain ⟨B, rfl, HB⟩ := went_bool (went_wrong (f := false) hw)
   clear hw
   go_wp2_with fail
   go_ret
   rw [HE.out]
   exact went_from (drewB m1) HB.out
  all_goals cases hbt
end
end Go.Proofs.YtbikiibpjdiaaaaDoor.Err
