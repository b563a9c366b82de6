/- What the reference writes of a text, and what is told by escapes. -/
import Derived.Test.YtbikiibpjdiaaaaDoorFF
import Derived.Test.YtbikiibpjdiaaaaDoorQM1
import Derived.Test.YtbikiibpjdiaaaaDoorSB
namespace Go.Proofs.YtbikiibpjdiaaaaDoor.Err
open Go.RowKit Go.Proofs.YtbikiibpjdiaaaaDoorW.PrintWords Go.Proofs.YtbikiibpjdiaaaaDoorW.PrintLast Go.Proofs.YtbikiibpjdiaaaaDoorW.PrintMore
open Go.Proofs.YtbikiibpjdiaaaaDoor.Dig Go.Proofs.YtbikiibpjdiaaaaDoor.Tab Go.Proofs.YtbikiibpjdiaaaaDoor.QF Go.Proofs.YtbikiibpjdiaaaaDoor.QM
set_option linter.unusedVariables false
/-- The bytes of a text from a place to its end, as they are written. -/
def ew (L : List Int) (esc : Bool) (e : Int) : Nat → Int → List Int
 | 0, _ => []
 | n + 1, x =>
  if x < e then
   if esc = true ∧ sign (rd L x) then escS (rd L x) ++ ew L esc e n (x + 1)
   else if esc = true ∧ lineEnd L x then escU (rd L (x + 2)) ++ ew L esc e n (x + 3)
   else rd L x :: ew L esc e n (x + 1)
  else []
section
variable {L l : List Int} {x y e : Int} {esc : Bool}
theorem ew_fuel : ∀ (n m : Nat) (x : Int), e - x ≤ n → e - x ≤ m → ew L esc e n x = ew L esc e m x := by
 intro n
 induction n with
 | zero =>
  intro m x hn hm
  cases m with
  | zero => rfl
  | succ m => unfold ew; rw [if_neg (by omega)]
 | succ n ih =>
  intro m x hn hm
  cases m with
  | zero => unfold ew; rw [if_neg (by omega)]
  | succ m =>
   unfold ew
   by_cases h : x < e
   ·rw [if_pos h, if_pos h, ih m (x + 1) (by omega) (by omega), ih m (x + 3) (by omega) (by omega)]
   ·rw [if_neg h, if_neg h]
theorem ew_at (h1 : e ≤ L.length) (h0 : 0 ≤ x) : ew L esc e L.length x =
  if x < e then
   if esc = true ∧ sign (rd L x) then escS (rd L x) ++ ew L esc e L.length (x + 1)
   else if esc = true ∧ lineEnd L x then escU (rd L (x + 2)) ++ ew L esc e L.length (x + 3)
   else rd L x :: ew L esc e L.length (x + 1)
  else [] := by
 rw [ew_fuel L.length (L.length + 1) x (by omega) (by omega)]
 rfl
theorem sb_lit (s : ByteArray) (l : List Int) (h : s.data.toList.map (fun b => (b.toNat : Int)) = l) : sb s = l := h
theorem ext_all : ∀ z : Fin 256, (Go.bits .andNot .u8 ((z.val : Nat) : Int) 1 = 168 ↔ (z.val = 168 ∨ z.val = 169)) := by decide +kernel
theorem ext_line (z : Int) (h0 : 0 ≤ z) (h1 : z < 256) : Go.bits .andNot .u8 z 1 = 168 ↔ (z = 168 ∨ z = 169) := by
 have := ext_all ⟨z.toNat, by omega⟩
 simp only [Int.toNat_of_nonneg h0] at this
 rw [this]
 omega
/-- What the reference tells by an escape at a place. -/
theorem escapes_f (hb : ∀ y, y ∈ l → 0 ≤ y ∧ y < 256) (hl : l.length ≤ 70000000) (i : Nat) (hi : i < l.length) : ∃ s n, spec_escapes.f (l.drop i) = some (s, n) ∧
  ((sign (rd (l ++ [0]) i) ∧ n = 1 ∧ sb s = escS (rd (l ++ [0]) i)) ∨ (¬ sign (rd (l ++ [0]) i) ∧ lineEnd (l ++ [0]) i ∧ n = 3 ∧ sb s = escU (rd (l ++ [0]) (i + 2))) ∨ (¬ sign (rd (l ++ [0]) i) ∧ ¬ lineEnd (l ++ [0]) i ∧ n = 0)) := by
 have hlen : ((l ++ [(0 : Int)]).length : Int) = l.length + 1 := by rw [List.length_append]; rfl
 have hdl : ((l.drop i).length : Int) = l.length - i := by rw [List.length_drop]; omega
 have hr : ∀ k : Nat, i + k < l.length → rd (l.drop i) (k : Int) = rd (l ++ [0]) ((i : Int) + k) := fun k hk => by
  have h1 := rd_drop l i k
  rw [h1, show ((i : Int) + (k : Int)) = ((i + k : Nat) : Int) by omega, rd_app l [0] (i + k) hk]
 have hby : ∀ k : Int, 0 ≤ k → k < l.length → 0 ≤ rd (l ++ [0]) k ∧ rd (l ++ [0]) k < 256 := fun k h0 h1 => by
  obtain ⟨n, rfl⟩ := Int.eq_ofNat_of_zero_le h0
  rw [rd_app l [0] n (by omega)]
  obtain ⟨_, e⟩ := rd_get l (n : Int) (by omega) (by omega)
  rw [e]
  exact hb _ (List.getElem_mem _)
 have r0 := hr 0 (by omega)
 rw [show ((0 : Nat) : Int) = 0 from rfl, Int.add_zero] at r0
 unfold spec_escapes.f
 rw [hdl, if_pos (by omega), r0]
 by_cases c1 : rd (l ++ [0]) (i : Int) = 60
 ·rw [if_pos c1]
  exact ⟨_, _, rfl, .inl ⟨by rw [c1]; decide, rfl, by rw [c1]; rfl⟩⟩
 by_cases c2 : rd (l ++ [0]) (i : Int) = 62
 ·rw [if_neg c1, if_pos c2]
  exact ⟨_, _, rfl, .inl ⟨by rw [c2]; decide, rfl, by rw [c2]; rfl⟩⟩
 by_cases c3 : rd (l ++ [0]) (i : Int) = 38
 ·rw [if_neg c1, if_neg c2, if_pos c3]
  exact ⟨_, _, rfl, .inl ⟨by rw [c3]; decide, rfl, by rw [c3]; rfl⟩⟩
 rw [if_neg c1, if_neg c2, if_neg c3]
 have hns : ¬ sign (rd (l ++ [0]) (i : Int)) := by unfold sign; omega
 by_cases c4 : (l.length : Int) - i ≥ 3
 ·rw [if_pos c4]
  have r1 := hr 1 (by omega)
  have r2 := hr 2 (by omega)
  rw [show ((1 : Nat) : Int) = 1 from rfl] at r1
  rw [show ((2 : Nat) : Int) = 2 from rfl] at r2
  by_cases c5 : rd (l ++ [0]) (i : Int) = 226
  ·rw [if_pos c5, if_pos (by omega), r1]
   by_cases c6 : rd (l ++ [0]) ((i : Int) + 1) = 128
   ·have hb2 := hby ((i : Int) + 2) (by omega) (by omega)
    rw [if_pos c6, if_pos (by omega), r2]
    by_cases c7 : Go.bits .andNot .u8 (rd (l ++ [0]) ((i : Int) + 2)) 1 = 168
    ·have h8 := (ext_line _ hb2.1 hb2.2).1 c7
     rw [if_pos c7]
     have hline : lineEnd (l ++ [0]) (i : Int) := ⟨c5, by omega, c6, h8⟩
     rcases h8 with h8 | h8
     ·rw [h8]
      exact ⟨_, _, rfl, .inr (.inl ⟨hns, hline, rfl, rfl⟩)⟩
     ·rw [h8]
      exact ⟨_, _, rfl, .inr (.inl ⟨hns, hline, rfl, rfl⟩)⟩
    ·rw [if_neg c7]
     exact ⟨_, _, rfl, .inr (.inr ⟨hns, fun h => c7 ((ext_line _ hb2.1 hb2.2).2 h.2.2.2), rfl⟩)⟩
   ·rw [if_neg c6]
    exact ⟨_, _, rfl, .inr (.inr ⟨hns, fun h => c6 h.2.2.1, rfl⟩)⟩
  ·rw [if_neg c5]
   exact ⟨_, _, rfl, .inr (.inr ⟨hns, fun h => c5 h.1, rfl⟩)⟩
 ·rw [if_neg c4]
  exact ⟨_, _, rfl, .inr (.inr ⟨hns, fun h => by have := h.2.1; omega, rfl⟩)⟩
end
end Go.Proofs.YtbikiibpjdiaaaaDoor.Err
/- The reference's writer: a text. -/
namespace Go.Proofs.YtbikiibpjdiaaaaDoor.Err
open Go.RowKit Go.Proofs.YtbikiibpjdiaaaaDoorW.PrintWords Go.Proofs.YtbikiibpjdiaaaaDoorW.PrintLast Go.Proofs.YtbikiibpjdiaaaaDoorW.PrintMore
open Go.Proofs.YtbikiibpjdiaaaaDoor.Dig Go.Proofs.YtbikiibpjdiaaaaDoor.Tab Go.Proofs.YtbikiibpjdiaaaaDoor.QF Go.Proofs.YtbikiibpjdiaaaaDoor.QM
set_option linter.unusedVariables false
/-- The reference's writer in memory: its row, whether it tells signs by escapes, and what stands behind them in its block. -/
structure WR (w : World) (g : Nat) (t : TypeId) (tail : List Value) (esc : Bool) (v : Value) (xs : List Int) : Prop where
 blk : w.heap[g]? = some (.cells (v :: .bool esc :: tail).toArray t (0, 0))
 own : Own (g + 1) w v xs
/-- Where a text ends, or the end of all. -/
def te (q : ByteArray → ByteArray) (L : List Int) (x : Int) : Int := match out q L .val [] x with
 | .done e => e
 | .fault _ => (L.length : Int) - 1
section
variable {q : ByteArray → ByteArray} {w w' w0 : World} {g : Nat} {t : TypeId} {tail : List Value} {esc : Bool} {v v1 : Value} {xs ys l L : List Int} {x e : Int} {A : Option Addr} {c : Nat}
theorem WR.lt (h : WR w g t tail esc v xs) : g < w.heap.size := blk_lt' h.blk
theorem WR.cell0 (h : WR w g t tail esc v xs) : w.cell? ⟨g, 0, none⟩ = some v := by have h2 := h.blk; simp [World.cell?, h2]
theorem WR.cell1 (h : WR w g t tail esc v xs) : w.cell? ⟨g, 1, none⟩ = some (.bool esc) := by have h2 := h.blk; simp [World.cell?, h2]
theorem WR.free (h : WR w g t tail esc v xs) (j : Nat) : w.frozen? ⟨g, j, none⟩ = false := by have h2 := h.blk; simp [World.frozen?, h2]
theorem WR.below (h : WR w g t tail esc v xs) (hb : Below w.heap.size w w') : WR w' g t tail esc v xs := ⟨by rw [hb.block g h.lt]; exact h.blk, h.own.move hb⟩
/-- What was written is put into the block. -/
theorem WR.put (h : WR w g t tail esc v xs) (ho : Own (g + 1) w' v1 ys) (hg : Grew w v w' v1) : WR (w'.setCell ⟨g, 0, none⟩ v1) g t tail esc v1 ys := by
 have hb : w'.heap[g]? = some (.cells (v :: .bool esc :: tail).toArray t (0, 0)) := by
  rw [hg.1.block g h.lt (fun e => ?_)]
  ·exact h.blk
  ·have := (h.own.lt g e.symm).1
   omega
 refine ⟨?_, own_setb ho 0 _⟩
 have := heap_setCell_same w' g 0 _ t v1 hb
 simpa using this
theorem WR.grew (h : WR w g t tail esc v xs) (hg : Grew w v w' v1) : w'.cell? ⟨g, 0, none⟩ = some v ∧ w'.frozen? ⟨g, 0, none⟩ = false := by
 have hb : w'.heap[g]? = some (.cells (v :: .bool esc :: tail).toArray t (0, 0)) := by
  rw [hg.1.block g h.lt (fun e => ?_)]
  ·exact h.blk
  ·have := (h.own.lt g e.symm).1
   omega
 constructor <;> simp [World.cell?, World.frozen?, hb]
theorem own_is {N : Nat} (h : Own N w v xs) : ∃ A n k, v = .slice A n k := by
 obtain ⟨A, k, hv, _⟩ := own_slice h
 exact ⟨A, _, k, hv⟩
/-- A text's end, as the pass finds it. -/
theorem te_bound (hT : Txt L) (h0 : 0 ≤ x) (h1 : x < L.length) (hq : rd L x = 34) : x < te q L x ∧ te q L x ≤ (L.length : Int) - 1 := by
 have hin := hT.inside h0 h1 (by omega)
 unfold te
 cases hs : fstr L false x with
 | none =>
  obtain ⟨s, hs2⟩ := fstr_none (q := q) hT h0 (by omega) hs []
  rw [(val_text hT h0 h1 hq).1, hs2]
  exact ⟨hin, Int.le_refl _⟩
 | some p =>
  obtain ⟨e, T⟩ := p
  have hok := fstr_ok (q := q) hT h0 (by omega) hs
  rw [(val_text hT h0 h1 hq).1, hok.2.2 []]
  show x < e ∧ e ≤ _
  omega
theorem te_text (hT : Txt L) (h0 : 0 ≤ x) (h1 : x < L.length) (hq : rd L x = 34) {T : List Int} (hs : fstr L esc x = some (e, T)) : te q L x = e := by
 have hin := hT.inside h0 h1 (by omega)
 have hok := fstr_ok (q := q) hT h0 (by omega) hs
 unfold te
 rw [(val_text hT h0 h1 hq).1, hok.2.2 []]
 rfl
set_option maxRecDepth 100000 in
set_option maxHeartbeats 16000000 in
theorem writeText (hG : G q w0) (hC : Kd.C (Kd.int .u8) w0 A l.length l) (hcap : l.length ≤ c) (hby : ∀ y, y ∈ l → 0 ≤ y ∧ y < 256) (hl : l.length ≤ 10000) (hb : Below w0.heap.size w0 w) (hg : w0.heap.size ≤ g)
  (hW : WR w g t tail esc v xs) (hx : xs.length ≤ 1000000000000) (h0 : 0 ≤ x) (h1 : x < l.length) (hq : rd l x = 34) :
  Calls Tryd.prog 28 #[.pointer (some ⟨g, 0, none⟩), .slice A l.length c, .int .i64 x] w fun e w' => (e = .returned (.int .i64 (te q (l ++ [0]) x)) ∧ ∃ v', WR w' g t tail esc v' (xs ++ ew (l ++ [0]) esc (te q (l ++ [0]) x) (l ++ [0]).length x)) ∧ Below w0.heap.size w0 w' := by
 have hTE := textEnd A c l x w (hG.below hb) (Kd.C_below hC hb) hcap hby hl h0 h1 hq
 have hlen : ((l ++ [(0 : Int)]).length : Int) = l.length + 1 := by rw [List.length_append]; rfl
 have hT : Txt (l ++ [0]) := by
  refine ⟨by omega, by rw [hlen, show ((l.length : Int) + 1 - 1) = (l.length : Int) by omega]; exact rd_last l 0, by omega, fun i h0 h1 => ?_⟩
  obtain ⟨n, rfl⟩ := Int.eq_ofNat_of_zero_le h0
  by_cases hn : n < l.length
  ·rw [rd_app l [0] n hn]
   obtain ⟨_, e⟩ := rd_get l (n : Int) (by omega) (by omega)
   rw [e]
   exact hby _ (List.getElem_mem _)
  ·rw [show n = l.length by omega, rd_last l 0]
   decide
 have hte := te_bound (q := q) hT h0 (by omega) (by rw [show x = ((x.toNat : Nat) : Int) by omega, rd_app l [0] x.toNat (by omega), ← show x = ((x.toNat : Nat) : Int) by omega]; exact hq)
 obtain ⟨E1, hE1⟩ : ∃ E1, E1 = te q (l ++ [0]) x := ⟨_, rfl⟩
 rw [← hE1] at hte ⊢
 have HWR := Aside0.mk hW
 have HB0 := Aside0.mk hb
 have HC := Aside0.mk hC
 have HT := Aside0.mk hT
 have HBY := Aside0.mk hby
 have HTE := Aside0.mk hte
 have HX := Aside0.mk hx
 have hZ : ∃ a b, teV (out q (l ++ [0]) .val [] x) = .tuple #[.int .i64 a, .bool b] ∧ ((b = true ∧ a = E1) ∨ (b = false ∧ (l.length : Int) = E1)) := by
  rw [hE1]
  unfold te
  cases out q (l ++ [0]) .val [] x with
  | done e => exact ⟨e, true, rfl, .inl ⟨rfl, rfl⟩⟩
  | fault s => exact ⟨0, false, rfl, .inr ⟨rfl, by show (l.length : Int) = ((l ++ [(0 : Int)]).length : Int) - 1; omega⟩⟩
 obtain ⟨za, zb, hz1, hz2⟩ := hZ
 rw [hz1] at hTE
 have HCALL := Aside0.mk hTE
 have HZ2 := Aside0.mk hz2
 have HLEN := Aside0.mk hlen
 clear hTE hW hb hC hby hte hG hz1 hz2 hE1 hq hT hx hlen
 go_enter Tryd.func28, Tryd.ntmps28
 go_wp2_with fail
 with_reducible refine HCALL.out.mono ?_
 rintro e w1 ⟨rfl, hb1⟩
 have HB1 := Aside0.mk (below_step HB0.out hb1)
 have HW1 := Aside0.mk (HWR.out.below hb1)
 clear hb1
 go_upto_if 19 with (fail)
 go_cut [7] from 20 to 21 (fun v7 wx => v7 = .int .i64 E1 ∧ wx = w1)
 case first =>
  rcases HZ2.out with ⟨rfl, rfl⟩ | ⟨rfl, rfl⟩
  all_goals
   go_wp2_with fail
   go_meet
   case rel => exact ⟨rfl, rfl⟩
 case rest =>
  obtain ⟨rfl, rfl⟩ := hcut
  go_wp2_with fail
  go_loopg [9] (l.length + 5) (fun kq v9 w' => ∃ (i : Int) (E : List Int) (u : Value), v9 = .int .i64 i ∧ Aside0 (x ≤ i ∧ i ≤ (l.length : Int) + 3 ∧ (E.length : Int) ≤ 6 * (i - x) ∧ (l.length : Int) + 5 ≤ i + kq) ∧ Aside0 (ew (l ++ [0]) esc E1 (l ++ [0]).length x = E ++ ew (l ++ [0]) esc E1 (l ++ [0]).length i) ∧ Aside0 (WR w' g t tail esc u (xs ++ E)) ∧ Aside0 (Below w0.heap.size w0 w'))
  case atStart => exact ⟨x, [], v, rfl, ⟨by omega, by omega, by simp, by omega⟩, ⟨by simp⟩, ⟨by rw [List.append_nil]; exact HW1.out⟩, HB1⟩
  case round =>
   obtain ⟨i, E, u, rfl, HI, HE, HWi, HBi⟩ := hrel
   obtain ⟨i1, i2, i3, i4⟩ := HI.out
   obtain _ | g0 := gk
   ·exfalso; omega
   have hi0 : 0 ≤ i := by omega
   have ei1 : wrap64 (i + 1) = i + 1 := by unfold wrap64; omega
   by_cases hie : i < E1
   ·have b1 : decide (i < E1) = true := decide_eq_true hie
    have hil : i < l.length := by have := HTE.out; have := HLEN.out; omega
    have hCi := Kd.C_below HC.out HBi.out
    obtain ⟨ad, hA, hxi⟩ := Kd.at_int hCi i hi0 hil
    have hRd := ReadsOf.drop_ (c := c) (Kd.reads_of_C (enc := Value.int .u8) (d := (0 : Int)) (h1 := fun _ => rfl) hCi) i.toNat (by omega) hcap
    obtain ⟨s, nn, hsf, hsc⟩ := escapes_f HBY.out (by omega) i.toNat (by omega)
    rw [show ((i.toNat : Nat) : Int) = i by omega] at hsc
    subst hA
    have HES : Aside0 (Calls Tryd.prog 41 #[.slice (some (ad.add i.toNat)) (l.length - i.toNat) (c - i.toNat)] wr fun e w' => e = .returned (.tuple #[.string s, .int .i64 nn]) ∧ Below wr.heap.size wr w') := ⟨by
     rw [if_neg (by omega)] at hRd
     have hdl : (l.drop i.toNat).length = l.length - i.toNat := List.length_drop
     have hc := spec_escapes.calls (some (ad.add i.toNat)) (c - i.toNat) (l.drop i.toNat) s nn wr (by rw [hdl]; exact Kd.C_of_reads (h1 := fun _ => rfl) hRd) (by rw [hdl]; omega) hsf
     rw [hdl] at hc
     exact hc⟩
    have hLi : rd (l ++ [0]) i = rd l i := by
     obtain ⟨k, rfl⟩ := Int.eq_ofNat_of_zero_le hi0
     exact rd_app l [0] k (by omega)
    have hew := ew_at (L := l ++ [0]) (esc := esc) (x := i) (e := E1) (by have := HTE.out; omega) hi0
    rw [if_pos hie] at hew
    have hAB : (esc = true ∧ (nn == 0) = false ∧ ew (l ++ [0]) esc E1 (l ++ [0]).length i = sb s ++ ew (l ++ [0]) esc E1 (l ++ [0]).length (i + nn) ∧ 1 ≤ nn ∧ nn ≤ 3 ∧ i + nn ≤ (l.length : Int) + 3 ∧ (sb s).length = 6) ∨
      (((nn == 0) = true ∨ (nn == 0) = false ∧ esc = false) ∧ ew (l ++ [0]) esc E1 (l ++ [0]).length i = rd l i :: ew (l ++ [0]) esc E1 (l ++ [0]).length (i + 1)) := by
     rcases hsc with ⟨hs1, rfl, hs2⟩ | ⟨hs1, hs2, rfl, hs3⟩ | ⟨hs1, hs2, rfl⟩
     ·by_cases he : esc = true
      ·rw [if_pos ⟨he, hs1⟩, ← hs2] at hew
       exact .inl ⟨he, by decide, hew, by omega, by omega, by omega, by rw [hs2]; rfl⟩
      ·rw [if_neg (fun h => he h.1), if_neg (fun h => he h.1), hLi] at hew
       exact .inr ⟨.inr ⟨by decide, by simpa using he⟩, hew⟩
     ·by_cases he : esc = true
      ·rw [if_neg (fun h => hs1 h.2), if_pos ⟨he, hs2⟩, ← hs3] at hew
       exact .inl ⟨he, by decide, hew, by omega, by omega, by omega, by rw [hs3]; rfl⟩
      ·rw [if_neg (fun h => he h.1), if_neg (fun h => he h.1), hLi] at hew
       exact .inr ⟨.inr ⟨by decide, by simpa using he⟩, hew⟩
     ·rw [if_neg (fun h => hs1 h.2), if_neg (fun h => hs2 h.2), hLi] at hew
      exact .inr ⟨.inl (by decide), hew⟩
    have g2 : (i ≤ (l.length : Int)) = True := eq_true (by omega)
    have g3 : i.toNat < c := by omega
    clear hCi hRd hsf hsc i1 i2 i3 i4 hew hLi hcap
    go_wp2_with fail
    with_reducible refine HES.out.mono ?_
    rintro e w2 ⟨rfl, hb2⟩
    have HB2 := Aside0.mk (below_step HBi.out hb2)
    have HW2 := Aside0.mk (HWi.out.below hb2)
    have hx2 := pw_cell_below hb2 hxi
    have hw0 := HW2.out.cell0
    have hw1 := HW2.out.cell1
    clear hb2 hxi
    rcases hAB with ⟨hesc, f0, hEW, n1, n2, n3, n6⟩ | ⟨hbr, hEW⟩
    ·subst hesc
     have HEW := Aside0.mk hEW
     have HN := Aside0.mk (And.intro n1 (And.intro n2 (And.intro n3 n6)))
     have en : wrap64 (i + nn) = i + nn := by unfold wrap64; omega
     have HGN : Aside0 (∀ v' w', Grew w2 u w' v' → w'.cell? ⟨g, 0, none⟩ = some u ∧ w'.frozen? ⟨g, 0, none⟩ = false) := ⟨fun v' w' hg => HW2.out.grew hg⟩
     clear hEW n1 n2 n3 n6
     go_wp2_with (first | ((with_reducible refine gate_builtin (b := .append) (xs := #[.tmp 61, .tmp 62]) rfl ?_); at_builtin; refine wpList_app rfl (.tmp 61) (.tmp 62) 9 rfl u _ (xs ++ E) (sb s) rfl rfl HW2.out.own (src_str s) ?aB ?aN ?_; (case aB => have h1 := HX.out; have h2 := HI.out; have h3 := HN.out; simp only [List.length_append]; omega); (case aN => exact HW2.out.lt); intro v3 w3 ho3 hg3; have HO3 := Aside0.mk ho3; have HG3 := Aside0.mk hg3; obtain ⟨p1, p2⟩ := HGN.out _ _ hg3; obtain ⟨A3, n3, c3, rfl⟩ := own_is ho3; clear ho3 hg3))
     go_roundg g0
     case measure => omega
     case rel => exact ⟨i + nn, E ++ sb s, _, by first | rfl | rw [en], ⟨by have := HI.out; have := HN.out; omega, HN.out.2.2.1, by have h1 := HI.out; have h2 := HN.out; rw [List.length_append]; omega, by have := HI.out; have := HN.out; omega⟩, ⟨by rw [List.append_assoc, ← HEW.out]; exact HE.out⟩, ⟨by rw [← List.append_assoc]; exact HW2.out.put HO3.out HG3.out⟩, ⟨(pw_below_grown HB2.out _ HB2.out.size HG3.out.1 (fun k hk => by have := (HW2.out.own.lt k hk).1; omega)).setCell hg _⟩⟩
    ·have HEW := Aside0.mk hEW
     clear hEW
     rcases hbr with f0 | ⟨f0, hesc⟩
     all_goals try subst hesc
     all_goals
      have hw0a := ((HW2.out.below (below_alloc (Below.refl _ _) (.cells #[.int .u8 (rd l i)] 5))).cell0)
      have HGN : Aside0 (∀ v' w', Grew w2 u w' v' → w'.cell? ⟨g, 0, none⟩ = some u ∧ w'.frozen? ⟨g, 0, none⟩ = false) := ⟨fun v' w' hg => HW2.out.grew hg⟩
      go_wp2_with fail
      go_region_law ((apply step_app (v := u) (x := .slice (some ⟨w2.heap.size, 0, none⟩) 1 1) (xs := xs ++ E) (ys := [rd l i]) (N := g + 1)); (case hg => rfl); (case ho => rfl); (case hs => rfl); (case hx => rfl); (case hown => first | exact HW2.out.own.move (below_alloc (Below.refl _ _) _).drew | exact HW2.out.own.move ((below_alloc (Below.refl _ _).drew _))); (case hsrc => (refine src_new (b := w2.heap.size) ?_ rfl; exact ⟨_, blk_new w2 _, rfl⟩)); (case hb => (have h1 := HX.out; have h2 := HI.out; simp only [List.length_append, List.length_cons, List.length_nil]; omega)); (case hN => (have := HW2.out.lt; simp; omega)); (intro v3 w3 ho3 hg3; have HO3 := Aside0.mk ho3; have HG3 := Aside0.mk (((Grew.refl w2 u).alloc _).drew.trans hg3); obtain ⟨p1, p2⟩ := HGN.out _ _ HG3.out; obtain ⟨A3, n3, c3, rfl⟩ := own_is ho3; clear ho3 hg3))
      all_goals
       go_wp2_with fail
       go_roundg g0
       case measure => omega
       case rel => exact ⟨i + 1, E ++ [rd l i], _, rfl, ⟨by have := HI.out; omega, by have := HI.out; omega, by have h1 := HI.out; rw [List.length_append, List.length_singleton]; omega, by have := HI.out; omega⟩, ⟨by rw [List.append_assoc, List.singleton_append, ← HEW.out]; exact HE.out⟩, ⟨by rw [← List.append_assoc]; exact HW2.out.put HO3.out HG3.out⟩, ⟨(pw_below_grown HB2.out _ HB2.out.size HG3.out.1 (fun k hk => by have := (HW2.out.own.lt k hk).1; omega)).setCell hg _⟩⟩
   ·have b1 : decide (i < E1) = false := decide_eq_false hie
    have hew : ew (l ++ [0]) esc E1 (l ++ [0]).length i = [] := by rw [ew_at (by have := HTE.out; omega) hi0, if_neg hie]
    have HEQ : Aside0 (ew (l ++ [0]) esc E1 (l ++ [0]).length x = E) := ⟨by have := HE.out; rw [hew, List.append_nil] at this; exact this⟩
    clear hew i1 i2 i3 i4
    go_wp2_with fail
    go_ret
    exact ⟨⟨rfl, u, by have h := HEQ.out; simp only [List.length_append, List.length_cons, List.length_nil, Nat.zero_add] at h; rw [h]; exact HWi.out⟩, HBi.out⟩
end
end Go.Proofs.YtbikiibpjdiaaaaDoor.Err
/- The reference's Compacted. -/
namespace Go.Proofs.YtbikiibpjdiaaaaDoor.Err
open Go.RowKit Go.Proofs.YtbikiibpjdiaaaaDoorW.PrintWords Go.Proofs.YtbikiibpjdiaaaaDoorW.PrintLast Go.Proofs.YtbikiibpjdiaaaaDoorW.PrintMore
open Go.Proofs.YtbikiibpjdiaaaaDoor.Dig Go.Proofs.YtbikiibpjdiaaaaDoor.Tab Go.Proofs.YtbikiibpjdiaaaaDoor.QF Go.Proofs.YtbikiibpjdiaaaaDoor.QM
set_option linter.unusedVariables false
/-- What the reference writes from a place on, outside of texts. -/
def cw (q : ByteArray → ByteArray) (L : List Int) (esc : Bool) : Nat → Int → List Int
 | 0, _ => []
 | n + 1, x =>
  if x < (L.length : Int) - 1 then
   if rd L x = 34 then ew L esc (te q L x) L.length x ++ cw q L esc n (te q L x)
   else if isBlank (rd L x) then cw q L esc n (x + 1)
   else rd L x :: cw q L esc n (x + 1)
  else []
section
variable {q : ByteArray → ByteArray} {w w' w0 : World} {g : Nat} {esc : Bool} {v v1 : Value} {xs ys l L : List Int} {x e : Int} {A : Option Addr} {c : Nat}
theorem cw_fuel (hT : Txt L) : ∀ (n m : Nat) (x : Int), 0 ≤ x → (L.length : Int) - x ≤ n → (L.length : Int) - x ≤ m → cw q L esc n x = cw q L esc m x := by
 intro n
 induction n with
 | zero =>
  intro m x h0 hn hm
  cases m with
  | zero => rfl
  | succ m => unfold cw; rw [if_neg (by omega)]
 | succ n ih =>
  intro m x h0 hn hm
  cases m with
  | zero => unfold cw; rw [if_neg (by omega)]
  | succ m =>
   unfold cw
   by_cases h : x < (L.length : Int) - 1
   ·rw [if_pos h, if_pos h]
    by_cases h2 : rd L x = 34
    ·have hb := te_bound (q := q) hT h0 (by omega) h2
     rw [if_pos h2, if_pos h2, ih m (te q L x) (by omega) (by omega) (by omega)]
    ·rw [if_neg h2, if_neg h2, ih m (x + 1) (by omega) (by omega) (by omega)]
   ·rw [if_neg h, if_neg h]
theorem cw_at (hT : Txt L) (h0 : 0 ≤ x) (h1 : x ≤ (L.length : Int)) : cw q L esc L.length x =
  if x < (L.length : Int) - 1 then
   if rd L x = 34 then ew L esc (te q L x) L.length x ++ cw q L esc L.length (te q L x)
   else if isBlank (rd L x) then cw q L esc L.length (x + 1)
   else rd L x :: cw q L esc L.length (x + 1)
  else [] := by
 rw [cw_fuel hT L.length (L.length + 1) x h0 (by omega) (by omega)]
 rfl
theorem ew_len : ∀ (n : Nat) (x : Int), x ≤ e → ((ew L esc e n x).length : Int) ≤ 6 * (e - x) := by
 intro n
 induction n with
 | zero => intro x h; unfold ew; simp; omega
 | succ n ih =>
  intro x h
  unfold ew
  by_cases h1 : x < e
  ·rw [if_pos h1]
   split
   ·have := ih (x + 1) (by omega)
    rw [List.length_append]
    have : (escS (rd L x)).length = 6 := rfl
    omega
   split
   ·rw [List.length_append]
    have h6 : (escU (rd L (x + 2))).length = 6 := rfl
    by_cases h3 : x + 3 ≤ e
    ·have := ih (x + 3) h3
     omega
    ·have : ew L esc e n (x + 3) = [] := by
      cases n with
      | zero => rfl
      | succ n => unfold ew; rw [if_neg (by omega)]
     rw [this]
     simp
     omega
   ·have := ih (x + 1) (by omega)
    rw [List.length_cons]
    omega
  ·rw [if_neg h1]
   simp
   omega
theorem txt_of (hby : ∀ y, y ∈ l → 0 ≤ y ∧ y < 256) (hl : l.length ≤ 70000000) : Txt (l ++ [0]) := by
 have hlen : ((l ++ [(0 : Int)]).length : Int) = l.length + 1 := by rw [List.length_append]; rfl
 refine ⟨by omega, by rw [hlen, show ((l.length : Int) + 1 - 1) = (l.length : Int) by omega]; exact rd_last l 0, by omega, fun i h0 h1 => ?_⟩
 obtain ⟨n, rfl⟩ := Int.eq_ofNat_of_zero_le h0
 by_cases hn : n < l.length
 ·rw [rd_app l [0] n hn]
  obtain ⟨_, e⟩ := rd_get l (n : Int) (by omega) (by omega)
  rw [e]
  exact hby _ (List.getElem_mem _)
 ·rw [show n = l.length by omega, rd_last l 0]
  decide
theorem rdL (h0 : 0 ≤ x) (h1 : x < l.length) : rd (l ++ [0]) x = rd l x := by
 obtain ⟨k, rfl⟩ := Int.eq_ofNat_of_zero_le h0
 exact rd_app l [0] k (by omega)
set_option maxRecDepth 100000 in
set_option maxHeartbeats 16000000 in
theorem compacted (hG : G q w) (hC : Kd.C (Kd.int .u8) w A l.length l) (hcap : l.length ≤ c) (hby : ∀ y, y ∈ l → 0 ≤ y ∧ y < 256) (hl : l.length ≤ 10000) :
  Calls Tryd.prog 15 #[.slice A l.length c, .bool esc] w fun e w' => (∃ B k, e = .returned (.slice B (cw q (l ++ [0]) esc (l ++ [0]).length 0).length k) ∧ (cw q (l ++ [0]) esc (l ++ [0]).length 0).length ≤ k ∧ Kd.C (Kd.int .u8) w' B (cw q (l ++ [0]) esc (l ++ [0]).length 0).length (cw q (l ++ [0]) esc (l ++ [0]).length 0)) ∧ Below w.heap.size w w' := by
 have hlen : ((l ++ [(0 : Int)]).length : Int) = l.length + 1 := by rw [List.length_append]; rfl
 have HT := Aside0.mk (txt_of hby (by omega))
 have HTXT : Aside0 (∀ (W : World) (u : Value) (E : List Int) (g : Nat) (i : Int), Below w.heap.size w W → w.heap.size ≤ g → WR W g 52 [] esc u E → E.length ≤ 1000000000000 → 0 ≤ i → i < l.length → rd l i = 34 → Calls Tryd.prog 28 #[.pointer (some ⟨g, 0, none⟩), .slice A l.length c, .int .i64 i] W fun e w' => (e = .returned (.int .i64 (te q (l ++ [0]) i)) ∧ ∃ v', WR w' g 52 [] esc v' (E ++ ew (l ++ [0]) esc (te q (l ++ [0]) i) (l ++ [0]).length i)) ∧ Below w.heap.size w w') :=
  ⟨fun W u E g i h2 h3 h4 h5 h6 h7 h8 => writeText hG hC hcap hby hl h2 h3 h4 h5 h6 h7 h8⟩
 have HC := Aside0.mk hC
 have HLEN := Aside0.mk hlen
 obtain ⟨R, hR⟩ : ∃ R, R = cw q (l ++ [0]) esc (l ++ [0]).length 0 := ⟨_, rfl⟩
 rw [← hR]
 have HR := Aside0.mk hR
 clear hG hC hby hR hlen
 go_enter Tryd.func15, Tryd.ntmps15
 go_wp2_with fail
 go_loopg [6] (l.length + 1) (fun kq v6 w' => ∃ (i : Int) (E : List Int) (u : Value), v6 = .int .i64 i ∧ Aside0 (0 ≤ i ∧ i ≤ (l.length : Int) ∧ (E.length : Int) ≤ 6 * i ∧ (l.length : Int) + 1 ≤ i + kq) ∧ Aside0 (R = E ++ cw q (l ++ [0]) esc (l ++ [0]).length i) ∧ Aside0 (WR w' w.heap.size 52 [] esc u E) ∧ Aside0 (Below w.heap.size w w'))
 case atStart => exact ⟨0, [], .slice none 0 0, rfl, ⟨by omega, by omega, by simp, by omega⟩, ⟨by rw [HR.out]; simp⟩, ⟨⟨blk_new w _, World.ownsRow_nil _ _ _ _⟩⟩, ⟨below_alloc (Below.refl _ _) _⟩⟩
 case round =>
  obtain ⟨i, E, u, rfl, HI, HE, HWi, HBi⟩ := hrel
  obtain ⟨i1, i2, i3, i4⟩ := HI.out
  obtain _ | g0 := gk
  ·exfalso; omega
  have ei1 : wrap64 (i + 1) = i + 1 := by unfold wrap64; omega
  by_cases hil : i < l.length
  ·have b1 : decide (i < (l.length : Int)) = true := decide_eq_true hil
   obtain ⟨ad, hA, hxi⟩ := Kd.at_int (Kd.C_below HC.out HBi.out) i i1 hil
   have hcw := cw_at (q := q) (esc := esc) HT.out i1 (by have := HLEN.out; omega)
   rw [if_pos (by have := HLEN.out; omega), rdL i1 hil] at hcw
   by_cases hq : rd l i = 34
   ·rw [if_pos hq] at hcw
    have HCW := Aside0.mk hcw
    have HCALL := Aside0.mk (HTXT.out _ u E _ i HBi.out (Nat.le_refl _) HWi.out (by omega) i1 hil hq)
    have HTB := Aside0.mk (te_bound (q := q) HT.out i1 (by have := HLEN.out; omega) (by rw [rdL i1 hil]; exact hq))
    rw [hq] at hxi
    subst hA
    clear hcw hq i2 i3 i4
    go_wp2_with fail
    with_reducible refine HCALL.out.mono ?_
    rintro e w2 ⟨⟨rfl, v2, hw2⟩, hb2⟩
    have HW2 := Aside0.mk hw2
    have HB2 := Aside0.mk hb2
    clear hw2 hb2
    go_wp2_with fail
    go_roundg g0
    case measure => omega
    case rel => exact ⟨te q (l ++ [0]) i, E ++ ew (l ++ [0]) esc (te q (l ++ [0]) i) (l ++ [0]).length i, v2, rfl, ⟨by have := HTB.out; omega, by have := HTB.out; have := HLEN.out; omega, by have h1 := HTB.out; have h2 := HI.out; have h3 := ew_len (L := l ++ [0]) (esc := esc) (e := te q (l ++ [0]) i) (l ++ [0]).length i (by omega); rw [List.length_append]; omega, by have := HTB.out; have := HI.out; omega⟩, ⟨by rw [List.append_assoc, ← HCW.out]; exact HE.out⟩, HW2, HB2⟩
   ·rw [if_neg hq] at hcw
    have f34 : (rd l i == 34) = false := beq_eq_false_iff_ne.mpr hq
    by_cases hbk : isBlank (rd l i)
    ·rw [if_pos hbk] at hcw
     have HCW := Aside0.mk hcw
     have HS : Aside0 (∀ W, Calls Tryd.prog 29 #[.int .u8 (rd l i)] W fun e w' => e = .returned (.bool true) ∧ Drawn0 W w') := ⟨fun W => by have := sBlank (rd l i) W; rw [decide_eq_true hbk] at this; exact this⟩
     subst hA
     clear hcw hq hbk i2 i3 i4
     go_wp2_with fail
     with_reducible refine (HS.out _).mono ?_
     rintro e w2 ⟨rfl, ⟨m2, rfl⟩⟩
     go_wp2_with fail
     go_roundg g0
     case measure => omega
     case rel => exact ⟨i + 1, E, u, rfl, ⟨by have := HI.out; omega, by have := HI.out; omega, by have := HI.out; omega, by have := HI.out; omega⟩, ⟨by rw [← HCW.out]; exact HE.out⟩, ⟨HWi.out.below (pw_below_drewN (Below.refl _ _) m2)⟩, ⟨pw_below_drewN HBi.out m2⟩⟩
    ·rw [if_neg hbk] at hcw
     have HCW := Aside0.mk hcw
     have HS : Aside0 (∀ W, Calls Tryd.prog 29 #[.int .u8 (rd l i)] W fun e w' => e = .returned (.bool false) ∧ Drawn0 W w') := ⟨fun W => by have := sBlank (rd l i) W; rw [decide_eq_false hbk] at this; exact this⟩
     subst hA
     clear hcw hq hbk i2 i3 i4
     go_wp2_with fail
     with_reducible refine (HS.out _).mono ?_
     rintro e w2 ⟨rfl, hd2⟩
     have HW2 := Aside0.mk (HWi.out.below hd2.below)
     have HB2 := Aside0.mk (below_step HBi.out hd2.below)
     have hxi2 := pw_cell_below hd2.below hxi
     have hw0 := HW2.out.cell0
     have hw0a := ((HW2.out.below (below_alloc (Below.refl _ _) (.cells #[.int .u8 (rd l i)] 5))).cell0)
     have HGN : Aside0 (∀ v' w', Grew w2 u w' v' → w'.cell? ⟨w.heap.size, 0, none⟩ = some u ∧ w'.frozen? ⟨w.heap.size, 0, none⟩ = false) := ⟨fun v' w' hg => HW2.out.grew hg⟩
     clear hd2 hxi
     go_wp2_with fail
     go_region_law ((apply step_app (v := u) (x := .slice (some ⟨w2.heap.size, 0, none⟩) 1 1) (xs := E) (ys := [rd l i]) (N := w.heap.size + 1)); (case hg => rfl); (case ho => rfl); (case hs => rfl); (case hx => rfl); (case hown => first | exact HW2.out.own.move (below_alloc (Below.refl _ _) _).drew | exact HW2.out.own.move ((below_alloc (Below.refl _ _).drew _))); (case hsrc => (refine src_new (b := w2.heap.size) ?_ rfl; exact ⟨_, blk_new w2 _, rfl⟩)); (case hb => (have h2 := HI.out; simp only [List.length_cons, List.length_nil]; omega)); (case hN => (have := HW2.out.lt; simp; omega)); (intro v3 w3 ho3 hg3; have HO3 := Aside0.mk ho3; have HG3 := Aside0.mk (((Grew.refl w2 u).alloc _).drew.trans hg3); obtain ⟨p1, p2⟩ := HGN.out _ _ HG3.out; obtain ⟨A3, n3, c3, rfl⟩ := own_is ho3; clear ho3 hg3))
     all_goals
      go_wp2_with fail
      go_roundg g0
      case measure => omega
      case rel => exact ⟨i + 1, E ++ [rd l i], _, rfl, ⟨by have := HI.out; omega, by have := HI.out; omega, by have h1 := HI.out; rw [List.length_append, List.length_singleton]; omega, by have := HI.out; omega⟩, ⟨by rw [List.append_assoc, List.singleton_append, ← HCW.out]; exact HE.out⟩, ⟨HW2.out.put HO3.out HG3.out⟩, ⟨(pw_below_grown HB2.out _ HB2.out.size HG3.out.1 (fun k hk => by have := (HW2.out.own.lt k hk).1; omega)).setCell (Nat.le_refl _) _⟩⟩
  ·have b1 : decide (i < (l.length : Int)) = false := decide_eq_false hil
   have hcw : cw q (l ++ [0]) esc (l ++ [0]).length i = [] := by rw [cw_at HT.out i1 (by have := HLEN.out; omega), if_neg (by have := HLEN.out; omega)]
   have HEQ : Aside0 (R = E) := ⟨by have := HE.out; rw [hcw, List.append_nil] at this; exact this⟩
   have hw0 := HWi.out.cell0
   obtain ⟨B, k, hu, hk, hs⟩ := own_slice HWi.out.own
   have HS := Aside0.mk (And.intro hk hs)
   subst hu
   clear hcw i1 i2 i3 i4 hk hs
   go_wp2_with fail
   go_ret
   rw [HEQ.out]
   exact ⟨⟨B, k, rfl, HS.out.1, HS.out.2⟩, HBi.out⟩
end
end Go.Proofs.YtbikiibpjdiaaaaDoor.Err
/- The pass against the reference: what it takes is what is one value, and what it writes compacted is what the reference writes. -/
namespace Go.Proofs.YtbikiibpjdiaaaaDoor.Err
open Go.RowKit Go.Proofs.YtbikiibpjdiaaaaDoorW.PrintWords Go.Proofs.YtbikiibpjdiaaaaDoorW.PrintLast Go.Proofs.YtbikiibpjdiaaaaDoorW.PrintMore
open Go.Proofs.YtbikiibpjdiaaaaDoor.Dig
set_option linter.unusedVariables false
section
variable {q : ByteArray → ByteArray} {L l : List Int} {x e : Int} {esc : Bool} {ind : Ind} {st : List Br}
/-- What the pass does not take the scanner faults. -/
theorem fv_none (hT : Txt L) : ∀ (n : Nat) (md : Md) (x : Int) (d : Nat), 0 ≤ x → x < L.length → 2 * ((L.length : Int) - x) + (match md with | .val => 1 | _ => 2) ≤ n → (d : Int) + ((L.length : Int) - 1 - x) ≤ 10000 → ¬ isBlank (rd L x) →
  fv L esc ind n md x d = none → ∀ st, ∃ s, out q L (phM md) (stM md st) x = .fault s := by
 intro n
 induction n with
 | zero => intro md x d h0 h1 hn; cases md <;> (simp only at hn; omega)
 | succ n ih =>
  intro md x d h0 h1 hn hd hb h st
  cases md with
  | val =>
   simp only at hn
   unfold fv at h
   show ∃ s, out q L .val st x = .fault s
   split at h
   ·rename_i hc
    have hv := val_obj (q := q) (st := st) hT h0 h1 hc
    have hk := skp_ge hT (x := x + 1) (by omega) hv.2
    have hnb := skp_stop hT (x := x + 1) (by omega) hv.2
    split at h
    ·rename_i hdp; unfold deep at hdp; omega
    split at h
    ·cases h
    ·rename_i _ hc2
     obtain ⟨s, hs⟩ := ih .key _ (d + 1) (by omega) hk.2 (by simp only; omega) (by omega) hnb (Option.map_eq_none_iff.1 h) st
     exact ⟨s, hv.1.trans ((skp_out hT rfl (by omega) hv.2 _).trans ((name0_name hT (by omega) hk.2 hnb hc2).trans hs))⟩
   split at h
   ·rename_i hc
    have hv := val_arr (q := q) (st := st) hT h0 h1 hc
    have hk := skp_ge hT (x := x + 1) (by omega) hv.2
    have hnb := skp_stop hT (x := x + 1) (by omega) hv.2
    split at h
    ·rename_i hdp; unfold deep at hdp; omega
    split at h
    ·cases h
    ·rename_i _ hc2
     obtain ⟨s, hs⟩ := ih .item _ (d + 1) (by omega) hk.2 (by simp only; omega) (by omega) hnb (Option.map_eq_none_iff.1 h) st
     exact ⟨s, hv.1.trans ((skp_out hT rfl (by omega) hv.2 _).trans ((item0_val hT (by omega) hk.2 hnb hc2).trans hs))⟩
   split at h
   ·rename_i hc
    have hv := val_text (q := q) (st := st) hT h0 h1 hc
    obtain ⟨s, hs⟩ := fstr_none (q := q) hT h0 hv.2 h st
    exact ⟨s, hv.1.trans hs⟩
   split at h
   ·rename_i hc
    exact flit_none lit_true hT h0 h1 (by rw [hc]; rfl) (fun st => (val_t hT h0 h1 hc).1) h st
   split at h
   ·rename_i hc
    exact flit_none lit_false hT h0 h1 (by rw [hc]; rfl) (fun st => (val_f hT h0 h1 hc).1) h st
   split at h
   ·rename_i hc
    exact flit_none lit_null hT h0 h1 (by rw [hc]; rfl) (fun st => (val_n hT h0 h1 hc).1) h st
   split at h
   ·rename_i hc
    obtain ⟨s, hs⟩ := fnum_none (q := q) hT h0 h1 hc h
    exact ⟨s, hs st⟩
   ·rename_i c1 c2 c3 c4 c5 c6 c7
    exact ⟨_, val_bad hT h0 h1 hb c1 c2 c3 (fun h => c7 (.inl h)) (fun h => c7 (.inr h)) c4 c5 c6⟩
  | key =>
   simp only at hn
   unfold fv at h
   show ∃ s, out q L .name (.obj :: st) x = .fault s
   split at h
   ·rename_i hc
    have hin := hT.inside h0 h1 (by omega)
    have hv := air_go (q := q) (c := 34) (ph := .name) (st := .obj :: st) (ph' := .text) (st' := .key :: st) hT rfl h0 h1 hc (by decide) rfl rfl
    split at h
    ·rename_i hs1
     obtain ⟨s, hs⟩ := fstr_none (q := q) hT h0 hv.2 hs1 (.key :: st)
     exact ⟨s, hv.1.trans hs⟩
    rename_i e1 T1 hs1
    have hs := fstr_ok (q := q) hT h0 hv.2 hs1
    have hk := skp_ge hT (x := e1) (by omega) hs.2.1
    have hnb := skp_stop hT (x := e1) (by omega) hs.2.1
    have h1e : out q L .name (.obj :: st) x = out q L .colon (.obj :: st) (skp L e1) := by
     rw [hv.1, hs.2.2 (.key :: st), cont_cons]
     exact skp_out hT rfl (by omega) hs.2.1 _
    split at h
    ·rename_i hc2
     have ha := air_go (q := q) (c := 58) (ph := .colon) (st := .obj :: st) (ph' := .val) (st' := .obj :: st) hT rfl (by omega) hk.2 hc2 (by decide) rfl rfl
     have hk2 := skp_ge hT (x := skp L e1 + 1) (by omega) ha.2
     have hnb2 := skp_stop hT (x := skp L e1 + 1) (by omega) ha.2
     have h2e := h1e.trans (ha.1.trans (skp_out hT rfl (by omega) ha.2 _))
     split at h
     ·rename_i hv2
      obtain ⟨s, hs⟩ := ih .val _ d (by omega) hk2.2 (by simp only; omega) (by omega) hnb2 hv2 (.obj :: st)
      exact ⟨s, h2e.trans hs⟩
     rename_i e2 T2 hv2
     have h2 := fv_ok (q := q) hT _ _ _ _ _ _ (by omega) hk2.2 hv2
     have hk3 := skp_ge hT (x := e2) (by omega) h2.2.1
     have hnb3 := skp_stop hT (x := e2) (by omega) h2.2.1
     have h3e : out q L .name (.obj :: st) x = out q L .memb (.obj :: st) (skp L e2) := by
      rw [h2e, show out q L .val (.obj :: st) _ = contO q L (.obj :: st) e2 from h2.2.2 (.obj :: st), cont_cons]
      exact skp_out hT rfl (by omega) h2.2.1 _
     split at h
     ·rename_i hc3
      have hb3 := air_go (q := q) (c := 44) (ph := .memb) (st := .obj :: st) (ph' := .name) (st' := .obj :: st) hT rfl (by omega) hk3.2 hc3 (by decide) rfl rfl
      have hk4 := skp_ge hT (x := skp L e2 + 1) (by omega) hb3.2
      have hnb4 := skp_stop hT (x := skp L e2 + 1) (by omega) hb3.2
      obtain ⟨s, hs⟩ := ih .key _ d (by omega) hk4.2 (by simp only; omega) (by omega) hnb4 (Option.map_eq_none_iff.1 h) st
      exact ⟨s, h3e.trans (hb3.1.trans ((skp_out hT rfl (by omega) hb3.2 _).trans hs))⟩
     split at h
     ·cases h
     ·rename_i d1 d2
      obtain ⟨s, hs⟩ := air_no (q := q) (st := .obj :: st) hT rfl (by omega) hk3.2 (memb_no hnb3 d1 d2)
      exact ⟨s, h3e.trans hs⟩
    ·rename_i hc2
     obtain ⟨s, hs⟩ := air_no (q := q) (st := .obj :: st) hT rfl (by omega) hk.2 (colon_no hnb hc2)
     exact ⟨s, h1e.trans hs⟩
   ·rename_i hc
    exact air_no (q := q) (st := .obj :: st) hT rfl h0 h1 (name_no hb hc)
  | item =>
   simp only at hn
   unfold fv at h
   show ∃ s, out q L .val (.arr :: st) x = .fault s
   split at h
   ·rename_i hv1
    exact ih .val _ d h0 h1 (by simp only; omega) hd hb hv1 (.arr :: st)
   rename_i e1 T1 hv1
   have h2 := fv_ok (q := q) hT _ _ _ _ _ _ h0 h1 hv1
   have hk3 := skp_ge hT (x := e1) (by omega) h2.2.1
   have hnb3 := skp_stop hT (x := e1) (by omega) h2.2.1
   have h3e : out q L .val (.arr :: st) x = out q L .item (.arr :: st) (skp L e1) := by
    rw [show out q L .val (.arr :: st) x = contO q L (.arr :: st) e1 from h2.2.2 (.arr :: st), cont_cons]
    exact skp_out hT rfl (by omega) h2.2.1 _
   split at h
   ·rename_i hc3
    have hb3 := air_go (q := q) (c := 44) (ph := .item) (st := .arr :: st) (ph' := .val) (st' := .arr :: st) hT rfl (by omega) hk3.2 hc3 (by decide) rfl rfl
    have hk4 := skp_ge hT (x := skp L e1 + 1) (by omega) hb3.2
    have hnb4 := skp_stop hT (x := skp L e1 + 1) (by omega) hb3.2
    obtain ⟨s, hs⟩ := ih .item _ d (by omega) hk4.2 (by simp only; omega) (by omega) hnb4 (Option.map_eq_none_iff.1 h) st
    exact ⟨s, h3e.trans (hb3.1.trans ((skp_out hT rfl (by omega) hb3.2 _).trans hs))⟩
   split at h
   ·cases h
   ·rename_i d1 d2
    obtain ⟨s, hs⟩ := air_no (q := q) (st := .arr :: st) hT rfl (by omega) hk3.2 (item_no hnb3 d1 d2)
    exact ⟨s, h3e.trans hs⟩
/-- The pass takes just what is one value. -/
theorem fj_ff (hby : ∀ y, y ∈ l → 0 ≤ y ∧ y < 256) (hl : l.length ≤ 10000) : fj (l ++ [0]) esc ind = none ↔ ff q l .val [] 0 ≠ none := by
 have hT := txt_of hby (by omega)
 have hlen : ((l ++ [(0 : Int)]).length : Int) = l.length + 1 := by rw [List.length_append]; rfl
 have hr := skp_run hT (x := 0) (by omega) (by omega)
 have hk := skp_ge hT (x := 0) (by omega) (by omega)
 have main : ∃ r, InsR q (l ++ [0]) r ∧ (fj (l ++ [0]) esc ind = none ↔ r ≠ none) := by
  unfold fj
  cases hv : fv (l ++ [0]) esc ind (2 * (l ++ [(0 : Int)]).length + 1) .val (skp (l ++ [0]) 0) 0 with
  | none =>
   obtain ⟨s, hs⟩ := fv_none (q := q) hT _ .val _ 0 (by omega) hk.2 (by simp only; omega) (by omega) hr.stop hv []
   exact ⟨some s, ⟨_, hr, .inl ⟨s, hs, rfl⟩⟩, by simp⟩
  | some p =>
   obtain ⟨e, T⟩ := p
   have hok := fv_ok (q := q) hT _ _ _ _ _ _ (by omega) hk.2 hv
   have hr2 := skp_run hT (x := e) (by omega) hok.2.1
   refine ⟨_, ⟨_, hr, .inr ⟨e, _, hok.2.2 [], by omega, hr2, rfl⟩⟩, ?_⟩
   simp only
   by_cases h : skp (l ++ [0]) e = ((l ++ [(0 : Int)]).length : Int) - 1
   ·rw [if_pos h, if_pos h]; simp
   ·rw [if_neg h, if_neg h]; simp
 obtain ⟨r, hI, hf⟩ := main
 rw [hf]
 rcases ins_ff hT hI with ⟨h1, h2⟩ | ⟨k, e, m, s, h1, h2, _⟩
 ·rw [h1, h2]; simp
 ·rw [h1, h2]; simp
end
end Go.Proofs.YtbikiibpjdiaaaaDoor.Err
/- What the pass writes compacted is what the reference writes. -/
namespace Go.Proofs.YtbikiibpjdiaaaaDoor.Err
open Go.RowKit Go.Proofs.YtbikiibpjdiaaaaDoorW.PrintWords Go.Proofs.YtbikiibpjdiaaaaDoorW.PrintLast Go.Proofs.YtbikiibpjdiaaaaDoorW.PrintMore
open Go.Proofs.YtbikiibpjdiaaaaDoor.Dig
set_option linter.unusedVariables false
/-- A byte of a number. -/
def numC (c : Int) : Prop := isDig c ∨ c = 43 ∨ c = 45 ∨ c = 46 ∨ c = 101 ∨ c = 69
section
variable {q : ByteArray → ByteArray} {L l : List Int} {x e d y : Int} {esc : Bool} {ind : Ind} {st : List Br}
/-- The bytes of what is read are bytes of numbers. -/
def NC (l : List Int) (i : Nat) (p : Nat × Nat) : Prop := p.2 = 0 → ∀ k : Nat, i ≤ k → k < p.1 → numC (rd l k)
theorem dEnd_all (l : List Int) : ∀ (d i : Nat), i + d = l.length → ∀ k : Nat, i ≤ k → k < dEnd l i → isDig (rd l k) := by
 intro d
 induction d with
 | zero => intro i hi k h1 h2; rw [dEnd_end l i (by omega)] at h2; omega
 | succ d ih =>
  intro i hi k h1 h2
  rw [dEnd_step l i (by omega)] at h2
  split at h2
  ·rename_i hd
   by_cases hk : k = i
   ·rw [hk]; exact (isD_dig _).1 hd
   ·exact ih (i + 1) (by omega) k (by omega) h2
  ·omega
theorem dEnd_in (l : List Int) (i : Nat) (hi : i ≤ l.length) (k : Nat) (h1 : i ≤ k) (h2 : k < dEnd l i) : isDig (rd l k) := dEnd_all l (l.length - i) i (by omega) k h1 h2
theorem c6 (l : List Int) (i : Nat) (hi : i ≤ l.length) : NC l i (r6 l i) := by
 intro h k h1 h2
 unfold r6 at h h2
 split at h
 ·cases h
 ·rename_i hne
  rw [if_neg hne] at h2
  exact .inl (dEnd_in l i hi k h1 h2)
theorem c4' (l : List Int) (i : Nat) (hi : i ≤ l.length) : NC l i (r4 l i) := by
 unfold r4 r5
 by_cases h : i < l.length ∧ (rd l (i : Int) = 101 ∨ rd l (i : Int) = 69)
 ·rw [if_pos (decide_eq_true h)]
  intro h0 k h1 h2
  by_cases hk : k = i
  ·rw [hk]; rcases h.2 with h3 | h3
   ·exact .inr (.inr (.inr (.inr (.inl h3))))
   ·exact .inr (.inr (.inr (.inr (.inr h3))))
  ·by_cases hs : i + 1 < l.length ∧ (rd l ((i + 1 : Nat) : Int) = 43 ∨ rd l ((i + 1 : Nat) : Int) = 45)
   ·rw [if_pos hs] at h0 h2
    by_cases hk2 : k = i + 1
    ·rw [hk2]; rcases hs.2 with h3 | h3
     ·exact .inr (.inl h3)
     ·exact .inr (.inr (.inl h3))
    ·exact c6 l (i + 2) (by omega) h0 k (by omega) h2
   ·rw [if_neg hs] at h0 h2
    exact c6 l (i + 1) (by omega) h0 k (by omega) h2
 ·rw [if_neg (by rw [decide_eq_true_iff]; exact h)]
  intro h0 k h1 h2
  simp only at h2
  omega
theorem c2' (l : List Int) (i : Nat) (hi : i ≤ l.length) : NC l i (r2 l i) := by
 unfold r2 r3
 by_cases h : i < l.length ∧ rd l (i : Int) = 46
 ·rw [if_pos (decide_eq_true h)]
  intro h0 k h1 h2
  by_cases hk : k = i
  ·rw [hk]; exact .inr (.inr (.inr (.inl h.2)))
  ·by_cases hd : dEnd l (i + 1) = i + 1
   ·rw [if_pos hd] at h0; cases h0
   ·rw [if_neg hd] at h0 h2
    by_cases hk2 : k < dEnd l (i + 1)
    ·exact .inl (dEnd_in l (i + 1) (by omega) k (by omega) hk2)
    ·exact c4' l _ (dEnd_ge l (i + 1) (by omega)).2 h0 k (by omega) h2
 ·rw [if_neg (by rw [decide_eq_true_iff]; exact h)]
  exact c4' l i hi
theorem c1' (l : List Int) (i : Nat) (hi : i ≤ l.length) : NC l i (r1 l i) := by
 unfold r1
 by_cases h : dEnd l i = i
 ·rw [if_pos h]; intro h0; cases h0
 ·rw [if_neg h]
  have hge := dEnd_ge l i hi
  have hlt : i < l.length := by
   by_cases h2 : i < l.length
   ·exact h2
   ·exact absurd (dEnd_end l i (by omega)) h
  have hdi := dEnd_in l i hi i (Nat.le_refl _) (by omega)
  by_cases hz : rd l (i : Int) = 48
  ·rw [if_pos hz]
   intro h0 k h1 h2
   by_cases hk : k = i
   ·rw [hk]; exact .inl hdi
   ·exact c2' l (i + 1) (by omega) h0 k (by omega) h2
  ·rw [if_neg hz]
   intro h0 k h1 h2
   by_cases hk : k < dEnd l i
   ·exact .inl (dEnd_in l i hi k h1 hk)
   ·exact c2' l _ hge.2 h0 k (by omega) h2
theorem num_chars (l : List Int) : NC l 0 (scanNum l) := by
 unfold scanNum
 by_cases h : 0 < l.length ∧ rd l 0 = 45
 ·rw [if_pos h]
  intro h0 k h1 h2
  by_cases hk : k = 0
  ·rw [hk]; exact .inr (.inr (.inl h.2))
  ·exact c1' l 1 (by omega) h0 k (by omega) h2
 ·rw [if_neg h]
  exact c1' l 0 (Nat.zero_le _)
theorem fnum_chars {T : List Int} (hT : Txt L) (h0 : 0 ≤ x) (h1 : x < L.length) (hc : rd L x = 45 ∨ isDig (rd L x)) (h : fnum L x = some (e, T)) : ∀ k : Int, x ≤ k → k < e → numC (rd L k) := by
 intro k hk1 hk2
 have hok := fnum_ok (q := fun s => s) hT h0 h1 hc h
 have hl := rest_len (L := L) h0 h1
 unfold fnum at h
 split at h
 ·rename_i h2
  cases h
  have hn := num_chars (rest L x) h2 (k - x).toNat (Nat.zero_le _) (by omega)
  rw [rest_rd h0 h1 _ (by omega), show x + (((k - x).toNat : Nat) : Int) = k by omega] at hn
  exact hn
 ·cases h
theorem cw_skip (hT : Txt L) : ∀ (n : Nat) (x y : Int), 0 ≤ x → RunTo isBlank L x y → y - x = n → cw q L esc L.length x = cw q L esc L.length y := by
 intro n
 induction n with
 | zero => intro x y h0 hr hn; rw [show y = x by omega]
 | succ n ih =>
  intro x y h0 hr hn
  have hb := hr.all x (Int.le_refl _) (by omega)
  have hlt := hr.lt
  have hin := hT.inside h0 (by omega) (by unfold isBlank at hb; omega)
  rw [cw_at hT h0 (by omega), if_pos hin, if_neg (by unfold isBlank at hb; omega), if_pos hb]
  exact ih (x + 1) y (by omega) (hr.from hb) (by omega)
theorem cw_skp (hT : Txt L) (h0 : 0 ≤ x) (h1 : x < L.length) : cw q L esc L.length x = cw q L esc L.length (skp L x) :=
 cw_skip hT (skp L x - x).toNat x _ h0 (skp_run hT h0 h1) (by have := (skp_ge hT h0 h1).1; omega)
theorem cw_one (hT : Txt L) (h0 : 0 ≤ x) (h1 : x < L.length) {c : Int} (hc : rd L x = c) (hz : c ≠ 0) (hq : c ≠ 34) (hb : ¬ isBlank c) : cw q L esc L.length x = c :: cw q L esc L.length (x + 1) := by
 have hin := hT.inside h0 h1 (by omega)
 rw [cw_at hT h0 (by omega), if_pos hin, hc, if_neg hq, if_neg hb]
theorem cw_run (hT : Txt L) : ∀ (n : Nat) (x y : Int), 0 ≤ x → x ≤ y → y < L.length → (∀ k, x ≤ k → k < y → rd L k ≠ 0 ∧ rd L k ≠ 34 ∧ ¬ isBlank (rd L k)) → y - x = n → cw q L esc L.length x = seg L x y ++ cw q L esc L.length y := by
 intro n
 induction n with
 | zero => intro x y h0 hxy hy hall hn; rw [show y = x by omega, seg_nil]; rfl
 | succ n ih =>
  intro x y h0 hxy hy hall hn
  obtain ⟨h1, h2, h3⟩ := hall x (Int.le_refl _) (by omega)
  rw [cw_one hT h0 (by omega) rfl h1 h2 h3, seg_cons x y h0 (by omega) (by omega), ih (x + 1) y (by omega) (by omega) hy (fun k hk hk2 => hall k (by omega) hk2) (by omega)]
  rfl
theorem numC_ok (c : Int) (h : numC c) : c ≠ 0 ∧ c ≠ 34 ∧ ¬ isBlank c := by unfold numC isDig at h; unfold isBlank; omega
theorem flit_cw {l T : List Int} (hl : Lit_ l) (hb : ∀ c ∈ l, c ≠ 34 ∧ ¬ isBlank c) (hT : Txt L) (h0 : 0 ≤ x) (h1 : x < L.length) (h : flit L x l = some (e, T)) : cw q L esc L.length x = T ++ cw q L esc L.length e := by
 have hg := flit_gt hT h0 h1 (by have := hl.len; omega) hl.pos h
 unfold flit at h
 split at h
 ·rename_i hs
  cases h
  rw [cw_run hT (x + (l.length : Int) - x).toNat x _ h0 (by omega) hg.2 (fun k hk hk2 => ?_) (by omega), hs]
  have hm : rd L k ∈ l := by
   have := seg_get (L := L) x (x + l.length) (k - x).toNat h0 (by omega) (by omega)
   rw [hs, show x + (((k - x).toNat : Nat) : Int) = k by omega] at this
   exact List.mem_of_getElem? this
  exact ⟨hl.pos _ hm, hb _ hm⟩
 ·cases h
/-- Bytes of a text that no escape is told for. -/
theorem ew_run (h1 : e ≤ L.length) : ∀ (n : Nat) (x y : Int), 0 ≤ x → x ≤ y → y ≤ e → (∀ k, x ≤ k → k < y → ¬ sign (rd L k) ∧ rd L k ≠ 226) → y - x = n → ew L esc e L.length x = seg L x y ++ ew L esc e L.length y := by
 intro n
 induction n with
 | zero => intro x y h0 hxy hy hall hn; rw [show y = x by omega, seg_nil]; rfl
 | succ n ih =>
  intro x y h0 hxy hy hall hn
  obtain ⟨h2, h3⟩ := hall x (Int.le_refl _) (by omega)
  rw [ew_at h1 h0, if_pos (by omega), if_neg (fun h => h2 h.2), if_neg (fun h => h3 h.2.1), seg_cons x y h0 (by omega) (by omega), ih (x + 1) y (by omega) (by omega) hy (fun k hk hk2 => hall k (by omega) hk2) (by omega)]
  rfl
theorem escF_plain (h : escF L x = some d) : ∀ k, x ≤ k → k < d → ¬ sign (rd L k) ∧ rd L k ≠ 226 := by
 intro k hk hk2
 unfold escF at h
 split at h
 ·rename_i hc
  cases h
  rw [show k = x by omega]
  unfold isEsc at hc
  unfold sign
  omega
 ·split at h
  ·rename_i hc
   cases h
   have hx : ∀ c, isHex c → ¬ sign c ∧ c ≠ 226 := fun c hc => by unfold isHex isDig at hc; unfold sign; omega
   have : k = x ∨ k = x + 1 ∨ k = x + 2 ∨ k = x + 3 ∨ k = x + 4 := by omega
   rcases this with rfl | rfl | rfl | rfl | rfl
   ·unfold sign; omega
   ·exact hx _ hc.2.1
   ·exact hx _ hc.2.2.1
   ·exact hx _ hc.2.2.2.1
   ·exact hx _ hc.2.2.2.2
  ·cases h
theorem fs_ew (hT : Txt L) : ∀ (n : Nat) (x e : Int) (T : List Int), 0 ≤ x → x < L.length → fs L esc n x = some (e, T) → T = ew L esc e L.length x := by
 intro n
 induction n with
 | zero => intro x e T h0 h1 h; cases h
 | succ n ih =>
  intro x e T h0 h1 h
  have hgt := fs_gt hT (n + 1) x e T h0 h1 h
  unfold fs at h
  split at h
  ·rename_i hc
   cases h
   rw [ew_at (by omega) h0, if_pos (by omega), if_neg (fun h => by have := h.2; rw [hc] at this; exact absurd this (by decide)), if_neg (fun h => by have := h.2.1; omega), ew_at (by omega) (by omega), if_neg (by omega), hc]
  split at h
  ·rename_i hc
   have hin := hT.inside h0 h1 (by omega)
   split at h
   ·cases h
   ·rename_i d hd
    have hg := escF_gt hT (by omega) (by omega) hd
    obtain ⟨⟨e1, T1⟩, hr, he⟩ := Option.map_eq_some_iff.1 h
    simp only [Prod.mk.injEq] at he
    obtain ⟨rfl, rfl⟩ := he
    have hgt2 := fs_gt hT n d e1 T1 (by omega) hg.2 hr
    rw [ew_run (by omega) (d - x).toNat x d h0 (by omega) (by omega) (fun k hk hk2 => ?_) (by omega), ← ih d e1 T1 (by omega) hg.2 hr]
    by_cases hkx : k = x
    ·rw [hkx, hc]; decide
    ·exact escF_plain hd k (by omega) hk2
  split at h
  ·cases h
  ·rename_i c1 c2 c3
   have hin := hT.inside h0 h1 (by omega)
   split at h
   ·rename_i hsg
    obtain ⟨⟨e1, T1⟩, hr, he⟩ := Option.map_eq_some_iff.1 h
    simp only [Prod.mk.injEq] at he
    obtain ⟨rfl, rfl⟩ := he
    rw [ew_at (by omega) h0, if_pos (by omega), if_pos hsg, ← ih (x + 1) e1 T1 (by omega) (by omega) hr]
   split at h
   ·rename_i hsg hl
    obtain ⟨⟨e1, T1⟩, hr, he⟩ := Option.map_eq_some_iff.1 h
    simp only [Prod.mk.injEq] at he
    obtain ⟨rfl, rfl⟩ := he
    rw [ew_at (by omega) h0, if_pos (by omega), if_neg hsg, if_pos hl, ← ih (x + 3) e1 T1 (by omega) (by have := hl.2.2.1; omega) hr]
   ·rename_i hsg hl
    obtain ⟨⟨e1, T1⟩, hr, he⟩ := Option.map_eq_some_iff.1 h
    simp only [Prod.mk.injEq] at he
    obtain ⟨rfl, rfl⟩ := he
    rw [ew_at (by omega) h0, if_pos (by omega), if_neg hsg, if_neg hl, ← ih (x + 1) e1 T1 (by omega) (by omega) hr]
theorem fstr_ew {T : List Int} (hT : Txt L) (h0 : 0 ≤ x) (h1 : x < L.length) (hq : rd L x = 34) (h : fstr L esc x = some (e, T)) : T = ew L esc e L.length x := by
 have hin := hT.inside h0 h1 (by omega)
 have hok := fstr_ok (q := fun s => s) hT h0 (by omega) h
 unfold fstr at h
 obtain ⟨⟨e1, T1⟩, hr, he⟩ := Option.map_eq_some_iff.1 h
 simp only [Prod.mk.injEq] at he
 obtain ⟨rfl, rfl⟩ := he
 rw [ew_at (by omega) h0, if_pos (by omega), if_neg (fun h => by have := h.2; rw [hq] at this; exact absurd this (by decide)), if_neg (fun h => by have := h.2.1; omega), ← fs_ew hT _ _ _ _ (by omega) (by omega) hr, hq]
theorem fstr_cw {T : List Int} (hT : Txt L) (h0 : 0 ≤ x) (h1 : x < L.length) (hq : rd L x = 34) (h : fstr L esc x = some (e, T)) : cw q L esc L.length x = T ++ cw q L esc L.length e := by
 have hin := hT.inside h0 h1 (by omega)
 rw [cw_at hT h0 (by omega), if_pos hin, if_pos hq, te_text hT h0 h1 hq h, ← fstr_ew hT h0 h1 hq h]
/-- What is written compacted of a value. -/
theorem fv_cw (hT : Txt L) : ∀ (n : Nat) (md : Md) (x : Int) (d : Nat) (e : Int) (T : List Int), 0 ≤ x → x < L.length → fv L esc none n md x d = some (e, T) → cw q L esc L.length x = T ++ cw q L esc L.length e := by
 intro n
 induction n with
 | zero => intro md x d e T h0 h1 h; cases h
 | succ n ih =>
  intro md x d e T h0 h1 h
  cases md with
  | val =>
   unfold fv at h
   split at h
   ·rename_i hc
    have hin := hT.inside h0 h1 (by omega)
    have hk := skp_ge hT (x := x + 1) (by omega) (by omega)
    rw [cw_one hT h0 h1 hc (by decide) (by decide) (by decide), cw_skp hT (by omega) (by omega)]
    split at h
    ·cases h
    split at h
    ·rename_i _ hc2
     cases h
     rw [cw_one hT (by omega) hk.2 hc2 (by decide) (by decide) (by decide)]
     rfl
    ·obtain ⟨⟨e1, T1⟩, hr, he⟩ := Option.map_eq_some_iff.1 h
     simp only [Prod.mk.injEq] at he
     obtain ⟨rfl, rfl⟩ := he
     rw [ih .key _ _ _ _ (by omega) hk.2 hr]
     rfl
   split at h
   ·rename_i hc
    have hin := hT.inside h0 h1 (by omega)
    have hk := skp_ge hT (x := x + 1) (by omega) (by omega)
    rw [cw_one hT h0 h1 hc (by decide) (by decide) (by decide), cw_skp hT (by omega) (by omega)]
    split at h
    ·cases h
    split at h
    ·rename_i _ hc2
     cases h
     rw [cw_one hT (by omega) hk.2 hc2 (by decide) (by decide) (by decide)]
     rfl
    ·obtain ⟨⟨e1, T1⟩, hr, he⟩ := Option.map_eq_some_iff.1 h
     simp only [Prod.mk.injEq] at he
     obtain ⟨rfl, rfl⟩ := he
     rw [ih .item _ _ _ _ (by omega) hk.2 hr]
     rfl
   split at h
   ·rename_i hc
    exact fstr_cw hT h0 h1 hc h
   split at h
   ·exact flit_cw lit_true (by decide) hT h0 h1 h
   split at h
   ·exact flit_cw lit_false (by decide) hT h0 h1 h
   split at h
   ·exact flit_cw lit_null (by decide) hT h0 h1 h
   split at h
   ·rename_i hc
    have hn := fnum_ok (q := fun s => s) hT h0 h1 hc h
    rw [hn.2.2.1]
    exact cw_run hT (e - x).toNat x e h0 (by omega) hn.2.1 (fun k hk hk2 => numC_ok _ (fnum_chars hT h0 h1 hc h k hk hk2)) (by omega)
   ·cases h
  | key =>
   unfold fv at h
   split at h
   ·rename_i hc
    have hin := hT.inside h0 h1 (by omega)
    split at h
    ·cases h
    rename_i e1 T1 hs1
    have hs := fstr_ok (q := fun s => s) hT h0 (by omega) hs1
    have hk := skp_ge hT (x := e1) (by omega) hs.2.1
    rw [fstr_cw hT h0 h1 hc hs1, cw_skp hT (by omega) hs.2.1]
    split at h
    ·rename_i hc2
     have hin2 := hT.inside (x := skp L e1) (by omega) hk.2 (by omega)
     have hk2 := skp_ge hT (x := skp L e1 + 1) (by omega) (by omega)
     rw [cw_one hT (by omega) hk.2 hc2 (by decide) (by decide) (by decide), cw_skp hT (by omega) (by omega)]
     split at h
     ·cases h
     rename_i e2 T2 hv2
     have h2 := fv_ok (q := fun s => s) hT _ _ _ _ _ _ (by omega) hk2.2 hv2
     have hk3 := skp_ge hT (x := e2) (by omega) h2.2.1
     rw [ih .val _ _ _ _ (by omega) hk2.2 hv2, cw_skp hT (by omega) h2.2.1]
     split at h
     ·rename_i hc3
      obtain ⟨⟨e3, T3⟩, hr, he⟩ := Option.map_eq_some_iff.1 h
      simp only [Prod.mk.injEq] at he
      obtain ⟨rfl, rfl⟩ := he
      have hin3 := hT.inside (x := skp L e2) (by omega) hk3.2 (by omega)
      have hk4 := skp_ge hT (x := skp L e2 + 1) (by omega) (by omega)
      rw [cw_one hT (by omega) hk3.2 hc3 (by decide) (by decide) (by decide), cw_skp hT (by omega) (by omega), ih .key _ _ _ _ (by omega) hk4.2 hr]
      simp [nl, cb]
     split at h
     ·rename_i _ hc3
      cases h
      rw [cw_one hT (by omega) hk3.2 hc3 (by decide) (by decide) (by decide)]
      simp [nl, cb]
     ·cases h
    ·cases h
   ·cases h
  | item =>
   unfold fv at h
   split at h
   ·cases h
   rename_i e1 T1 hv1
   have h2 := fv_ok (q := fun s => s) hT _ _ _ _ _ _ h0 h1 hv1
   have hk3 := skp_ge hT (x := e1) (by omega) h2.2.1
   rw [ih .val _ _ _ _ h0 h1 hv1, cw_skp hT (by omega) h2.2.1]
   split at h
   ·rename_i hc3
    obtain ⟨⟨e3, T3⟩, hr, he⟩ := Option.map_eq_some_iff.1 h
    simp only [Prod.mk.injEq] at he
    obtain ⟨rfl, rfl⟩ := he
    have hin3 := hT.inside (x := skp L e1) (by omega) hk3.2 (by omega)
    have hk4 := skp_ge hT (x := skp L e1 + 1) (by omega) (by omega)
    rw [cw_one hT (by omega) hk3.2 hc3 (by decide) (by decide) (by decide), cw_skp hT (by omega) (by omega), ih .item _ _ _ _ (by omega) hk4.2 hr]
    simp [nl]
   split at h
   ·rename_i _ hc3
    cases h
    rw [cw_one hT (by omega) hk3.2 hc3 (by decide) (by decide) (by decide)]
    simp [nl]
   ·cases h
theorem fj_cw {T : List Int} (hT : Txt L) (h : fj L esc none = some (e, T)) : cw q L esc L.length 0 = T := by
 have hpos := hT.pos
 have hk := skp_ge hT (x := 0) (by omega) (by omega)
 unfold fj at h
 split at h
 ·cases h
 rename_i e1 T1 hv
 have h2 := fv_ok (q := fun s => s) hT _ _ _ _ _ _ (by omega) hk.2 hv
 split at h
 ·rename_i hend
  cases h
  rw [cw_skp hT (by omega) (by omega), fv_cw hT _ _ _ _ _ _ (by omega) hk.2 hv, cw_skp hT (by omega) h2.2.1, hend, cw_at hT (by omega) (by omega), if_neg (by omega), List.append_nil]
 ·cases h
end
end Go.Proofs.YtbikiibpjdiaaaaDoor.Err
/- How much the pass writes of all; what a law of formats is called with. -/
namespace Go.Proofs.YtbikiibpjdiaaaaDoor.Err
open Go.RowKit Go.Proofs.YtbikiibpjdiaaaaDoorW.PrintWords Go.Proofs.YtbikiibpjdiaaaaDoorW.PrintLast Go.Proofs.YtbikiibpjdiaaaaDoorW.PrintMore
open Go.Proofs.YtbikiibpjdiaaaaDoor.Dig Go.Proofs.YtbikiibpjdiaaaaDoor.Tab Go.Proofs.YtbikiibpjdiaaaaDoor.QF Go.Proofs.YtbikiibpjdiaaaaDoor.QM
set_option linter.unusedVariables false
section
variable {esc : Bool}
theorem fj_pos {L T : List Int} {e : Int} {ind : Ind} (hT : Txt L) (h : fj L esc ind = some (e, T)) : 0 < T.length := by
 have hpos := hT.pos
 have hk := skp_ge hT (x := 0) (by omega) (by omega)
 unfold fj at h
 split at h
 ·cases h
 rename_i e1 T1 hv
 split at h
 ·cases h
  rw [show 2 * L.length + 1 = (2 * L.length) + 1 from rfl, fv_val] at hv
  split at hv
  ·split at hv
   ·cases hv
   split at hv
   ·cases hv; decide
   ·obtain ⟨⟨e2, T2⟩, hr, he⟩ := Option.map_eq_some_iff.1 hv
    cases he
    simp
  split at hv
  ·split at hv
   ·cases hv
   split at hv
   ·cases hv; decide
   ·obtain ⟨⟨e2, T2⟩, hr, he⟩ := Option.map_eq_some_iff.1 hv
    cases he
    simp
  split at hv
  ·unfold fstr at hv
   obtain ⟨⟨e2, T2⟩, hr, he⟩ := Option.map_eq_some_iff.1 hv
   cases he
   simp
  split at hv
  ·have := flit_len hv; have := flit_gt hT (by omega) hk.2 (by decide) lit_true.pos hv; omega
  split at hv
  ·have := flit_len hv; have := flit_gt hT (by omega) hk.2 (by decide) lit_false.pos hv; omega
  split at hv
  ·have := flit_len hv; have := flit_gt hT (by omega) hk.2 (by decide) lit_null.pos hv; omega
  split at hv
  ·rename_i hc
   have hn := fnum_ok (q := fun s => s) hT (by omega) hk.2 hc hv
   rw [hn.2.2.1, seg_len _ _ (by omega) (by omega) (by omega)]
   omega
  ·cases hv
 ·cases h
theorem fj_len {L T : List Int} {e : Int} {ind : Ind} (hT : Txt L) (hi : IndOk ind) (h : fj L esc ind = some (e, T)) : T.length ≤ 200000 * L.length := by
 have hpos := hT.pos
 have hk := skp_ge hT (x := 0) (by omega) (by omega)
 unfold fj at h
 split at h
 ·cases h
 rename_i e1 T1 hv
 have hok := fv_ok (q := fun s => s) hT _ _ _ _ _ _ (by omega) hk.2 hv
 have hl := fv_len hT hi _ _ _ _ _ _ (by omega) hk.2 (by omega) hv
 split at h
 ·cases h
  omega
 ·cases h
theorem C_grown {w w' : World} {A : Option Addr} {l : List Int} {row : Option Nat} (h : Kd.C (Kd.int .u8) w A l.length l) (hg : w.grownBy w' row) (hne : ∀ a : Addr, A = some a → some a.block ≠ row) : Kd.C (Kd.int .u8) w' A l.length l := by
 refine Kd.C_of_reads (enc := Value.int .u8) (d := (0 : Int)) (h1 := fun _ => rfl) ?_
 have h2 := Kd.reads_of_C (enc := Value.int .u8) (d := (0 : Int)) (h1 := fun _ => rfl) h
 refine ⟨h2.1, h2.2.1, fun hn => ?_⟩
 obtain ⟨ad, e, hc⟩ := h2.2.2 hn
 exact ⟨ad, e, fun j hj => hg.cell (hc j hj) (by rw [add_block]; exact hne ad e)⟩
/-- What a law of compacting is called with. -/
structure LawIn (q : ByteArray → ByteArray) (w : World) (A0 : Option Addr) (c0 : Nat) (xs : List Int) (A1 : Option Addr) (c1 : Nat) (l : List Int) : Prop where
 s0 : Kd.C (Kd.int .u8) w A0 xs.length xs
 k0 : xs.length ≤ c0
 s1 : Kd.C (Kd.int .u8) w A1 l.length l
 k1 : l.length ≤ c1
 byt : ∀ y, y ∈ l → 0 ≤ y ∧ y < 256
 G : G q w
 m0 : xs.length ≤ maxLen
 m1 : l.length ≤ maxLen
end
end Go.Proofs.YtbikiibpjdiaaaaDoor.Err
/- What compact JSON is: the places of its automaton, and that nothing is left out of it. -/
namespace Go.Proofs.YtbikiibpjdiaaaaDoor.Err
open Go.RowKit Go.Proofs.YtbikiibpjdiaaaaDoorW.PrintWords Go.Proofs.YtbikiibpjdiaaaaDoorW.PrintLast Go.Proofs.YtbikiibpjdiaaaaDoorW.PrintMore
open Go.Proofs.YtbikiibpjdiaaaaDoor.Dig Go.Proofs.YtbikiibpjdiaaaaDoor.Tab
set_option linter.unusedVariables false
/-- Between two places nothing is left out, and what is escaped is escaped byte by byte. -/
def Even (q : ByteArray → ByteArray) (L : List Int) (i j : Int) : Prop :=
 ∀ esc : Bool, ∃ H, cw q L esc L.length i = H ++ cw q L esc L.length j ∧ ew L esc ((L.length : Int) - 1) L.length i = H ++ ew L esc ((L.length : Int) - 1) L.length j
/-- Ahead of a value. -/
def AtV (q : ByteArray → ByteArray) (L : List Int) (st : List Br) (i : Int) : Prop :=
 (out q L .val [] 0 = out q L .val st i ∨ (out q L .val [] 0 = out q L .item0 st i ∧ rd L i ≠ 93)) ∧ Even q L 0 i
/-- Behind a value. -/
def AtC (q : ByteArray → ByteArray) (L : List Int) (st : List Br) (i : Int) : Prop := out q L .val [] 0 = contO q L st i ∧ Even q L 0 i
/-- One value, of which nothing is left out. -/
def Good (q : ByteArray → ByteArray) (L : List Int) : Prop :=
 out q L .val [] 0 = .done ((L.length : Int) - 1) ∧ ∀ esc : Bool, cw q L esc L.length 0 = ew L esc ((L.length : Int) - 1) L.length 0
section
variable {q : ByteArray → ByteArray} {L l T : List Int} {x y i j k e c : Int} {esc : Bool} {st : List Br}
theorem Even.refl : Even q L i i := fun _ => ⟨[], rfl, rfl⟩
theorem Even.trans (h : Even q L i j) (h2 : Even q L j k) : Even q L i k := fun esc => by
 obtain ⟨H, a, b⟩ := h esc
 obtain ⟨H2, a2, b2⟩ := h2 esc
 exact ⟨H ++ H2, by rw [a, a2, List.append_assoc], by rw [b, b2, List.append_assoc]⟩
theorem even_run (hT : Txt L) (h0 : 0 ≤ x) (hxy : x ≤ y) (hy : y < L.length) (h : ∀ k, x ≤ k → k < y → rd L k ≠ 0 ∧ rd L k ≠ 34 ∧ ¬ isBlank (rd L k) ∧ ¬ sign (rd L k) ∧ rd L k ≠ 226) : Even q L x y := fun esc =>
 ⟨seg L x y, cw_run hT (y - x).toNat x y h0 hxy hy (fun k a b => ⟨(h k a b).1, (h k a b).2.1, (h k a b).2.2.1⟩) (by omega),
  ew_run (by omega) (y - x).toNat x y h0 hxy (by omega) (fun k a b => (h k a b).2.2.2) (by omega)⟩
theorem even_one (hT : Txt L) (h0 : 0 ≤ x) (h1 : x < (L.length : Int) - 1) (hc : rd L x = c) (h : c ≠ 0 ∧ c ≠ 34 ∧ ¬ isBlank c ∧ ¬ sign c ∧ c ≠ 226) : Even q L x (x + 1) :=
 even_run hT h0 (by omega) (by omega) (fun k a b => by rw [show k = x by omega, hc]; exact h)
theorem ew_cut (he : e ≤ (L.length : Int) - 1) (hq : rd L (e - 1) = 34) : ∀ (n : Nat) (x : Int), 0 ≤ x → x ≤ e → (e - x).toNat ≤ n →
  ew L esc ((L.length : Int) - 1) L.length x = ew L esc e L.length x ++ ew L esc ((L.length : Int) - 1) L.length e := by
 intro n
 induction n with
 | zero =>
  intro x h0 h1 h2
  have hxe : x = e := by omega
  rw [hxe, ew_at (e := e) (by omega) (by omega), if_neg (by omega)]
  rfl
 | succ n ih =>
  intro x h0 h1 h2
  by_cases hx : x < e
  ·rw [ew_at (e := (L.length : Int) - 1) (by omega) h0, if_pos (by omega), ew_at (e := e) (by omega) h0, if_pos hx]
   by_cases hs : esc = true ∧ sign (rd L x)
   ·rw [if_pos hs, if_pos hs, ih (x + 1) (by omega) (by omega) (by omega), List.append_assoc]
   ·rw [if_neg hs, if_neg hs]
    by_cases hl : esc = true ∧ lineEnd L x
    ·have h3 : x + 3 ≤ e := by
      obtain ⟨_, l1, l2, l3, l4⟩ := hl
      by_cases h31 : e - 1 = x
      ·rw [h31] at hq; omega
      ·by_cases h32 : e - 1 = x + 1
       ·rw [h32] at hq; omega
       ·omega
     rw [if_pos hl, if_pos hl, ih (x + 3) (by omega) (by omega) (by omega), List.append_assoc]
    ·rw [if_neg hl, if_neg hl, ih (x + 1) (by omega) (by omega) (by omega)]
     rfl
  ·have hxe : x = e := by omega
   rw [hxe, ew_at (e := e) (by omega) (by omega), if_neg (by omega)]
   rfl
theorem fs_last (hT : Txt L) : ∀ (n : Nat) (x e : Int) (T : List Int), 0 ≤ x → x < L.length → fs L esc n x = some (e, T) → rd L (e - 1) = 34 := by
 intro n
 induction n with
 | zero => intro x e T h0 h1 h; cases h
 | succ n ih =>
  intro x e T h0 h1 h
  unfold fs at h
  split at h
  ·rename_i hc
   cases h
   rw [show x + 1 - 1 = x by omega]
   exact hc
  split at h
  ·rename_i hc
   have hin := hT.inside h0 h1 (by omega)
   split at h
   ·cases h
   ·rename_i d hd
    have hg := escF_gt hT (by omega) (by omega) hd
    obtain ⟨⟨e1, T1⟩, hr, he⟩ := Option.map_eq_some_iff.1 h
    cases he
    exact ih d e1 T1 (by omega) hg.2 hr
  split at h
  ·cases h
  ·rename_i c1 c2 c3
   have hin := hT.inside h0 h1 (by omega)
   split at h
   ·obtain ⟨⟨e1, T1⟩, hr, he⟩ := Option.map_eq_some_iff.1 h
    cases he
    exact ih (x + 1) e1 T1 (by omega) (by omega) hr
   split at h
   ·rename_i hl
    obtain ⟨⟨e1, T1⟩, hr, he⟩ := Option.map_eq_some_iff.1 h
    cases he
    exact ih (x + 3) e1 T1 (by omega) (by have := hl.2.2.1; omega) hr
   ·obtain ⟨⟨e1, T1⟩, hr, he⟩ := Option.map_eq_some_iff.1 h
    cases he
    exact ih (x + 1) e1 T1 (by omega) (by omega) hr
theorem even_text (hT : Txt L) (h0 : 0 ≤ x) (h1 : x < L.length) (hq : rd L x = 34) (h : fstr L false x = some (e, T)) : Even q L x e := fun esc => by
 have hin := hT.inside h0 h1 (by omega)
 have hok := fstr_ok (q := q) hT h0 (by omega) h
 have hlast : rd L (e - 1) = 34 := by
  unfold fstr at h
  obtain ⟨⟨e1, T1⟩, hr, he⟩ := Option.map_eq_some_iff.1 h
  cases he
  exact fs_last hT _ _ _ _ (by omega) (by omega) hr
 refine ⟨ew L esc e L.length x, ?_, ew_cut (by omega) hlast (e - x).toNat x h0 (by omega) (by omega)⟩
 rw [cw_at hT h0 (by omega), if_pos hin, if_pos hq, te_text hT h0 h1 hq h]
/-- Ahead of a value whose first byte is no blank the automaton stands at its beginning. -/
theorem AtV.here (h : AtV q L st i) (hT : Txt L) (h0 : 0 ≤ i) (h1 : i < (L.length : Int) - 1) (hb : ¬ isBlank (rd L i)) : out q L .val [] 0 = out q L .val st i := by
 rcases h.1 with h2 | ⟨h2, h3⟩
 ·exact h2
 ·rw [h2, out_at q L _ st i h0 h1, out_at q L .val st i h0 h1]
  have e : step q (rd L i) .item0 st = step q (rd L i) .val st := by
   show between q (rd L i) .item0 st = between q (rd L i) .val st
   unfold between
   rw [if_neg hb, if_neg hb]
   exact if_neg h3
  rw [e]
  rfl
theorem atV0 : AtV q L [] 0 := ⟨.inl rfl, Even.refl⟩
theorem AtV.text (h : AtV q L st i) (hT : Txt L) (h0 : 0 ≤ i) (h1 : i < (L.length : Int) - 1) (hq : rd L i = 34) (hf : fstr L false i = some (e, T)) : AtC q L st e := by
 have hok := fstr_ok (q := q) hT h0 (by omega) hf
 refine ⟨?_, h.2.trans (even_text hT h0 (by omega) hq hf)⟩
 rw [h.here hT h0 h1 (by rw [hq]; decide), (air_go (q := q) (ph := .val) (st := st) (ph' := .text) (st' := st) hT rfl h0 (by omega) hq (by decide) rfl rfl).1]
 exact hok.2.2 st
theorem AtV.lit {l : List Int} (h : AtV q L st i) (hT : Txt L) (h0 : 0 ≤ i) (h1 : i < (L.length : Int) - 1) (hl : Lit_ l) (hb : ∀ c ∈ l, c ≠ 0 ∧ c ≠ 34 ∧ ¬ isBlank c ∧ ¬ sign c ∧ c ≠ 226) (hc : ¬ isBlank (rd L i)) (hv : ∀ st, out q L .val st i = out q L (.word l 1) st (i + 1)) (hf : flit L i l = some (e, T)) : AtC q L st e := by
 have hg := flit_gt hT h0 (by omega) (by have := hl.len; omega) hl.pos hf
 refine ⟨?_, h.2.trans (even_run hT h0 (by omega) hg.2 (fun k a b => ?_))⟩
 ·rw [h.here hT h0 h1 hc]
  exact flit_ok hl hT h0 (by omega) hv hf st
 ·refine hb _ ?_
  unfold flit at hf
  split at hf
  ·rename_i hs
   simp only [Option.some.injEq, Prod.mk.injEq] at hf
   have := seg_get (L := L) i e (k - i).toNat h0 (by omega) (by omega)
   rw [← hf.1, hs, show i + (((k - i).toNat : Nat) : Int) = k by omega] at this
   exact List.mem_of_getElem? this
  ·cases hf
theorem AtV.num (h : AtV q L st i) (hT : Txt L) (h0 : 0 ≤ i) (h1 : i < (L.length : Int) - 1) (hc : rd L i = 45 ∨ isDig (rd L i)) (hf : fnum L i = some (e, T)) : AtC q L st e := by
 have hok := fnum_ok (q := q) hT h0 (by omega) hc hf
 have hch := fnum_chars hT h0 (by omega) hc hf
 refine ⟨?_, h.2.trans (even_run hT h0 (by omega) hok.2.1 (fun k a b => ?_))⟩
 ·rw [h.here hT h0 h1 (by unfold isBlank; unfold isDig at hc; omega)]
  exact hok.2.2.2 st
 ·have := hch k a b
  unfold numC isDig at this
  unfold isBlank sign
  omega
/-- An object's first byte, and no name behind it. -/
theorem AtV.obj0 (h : AtV q L st i) (hT : Txt L) (h0 : 0 ≤ i) (h1 : i + 1 < (L.length : Int) - 1) (hc : rd L i = 123) (hd : rd L (i + 1) = 125) : AtC q L st (i + 2) := by
 refine ⟨?_, h.2.trans ((even_one hT h0 (by omega) hc (by decide)).trans (by have := even_one (q := q) hT (x := i + 1) (by omega) (by omega) hd (by decide); rw [show i + 1 + 1 = i + 2 by omega] at this; exact this))⟩
 rw [h.here hT h0 (by omega) (by rw [hc]; decide), (air_go (q := q) (ph := .val) (st := st) (ph' := .name0) (st' := .obj :: st) hT rfl h0 (by omega) hc (by decide) rfl rfl).1,
  (air_end (q := q) (st := .obj :: st) (ph := .name0) hT rfl (by omega) (by omega) hd (by decide) rfl).1, show i + 1 + 1 = i + 2 by omega]
 rfl
theorem AtV.arr0 (h : AtV q L st i) (hT : Txt L) (h0 : 0 ≤ i) (h1 : i + 1 < (L.length : Int) - 1) (hc : rd L i = 91) (hd : rd L (i + 1) = 93) : AtC q L st (i + 2) := by
 refine ⟨?_, h.2.trans ((even_one hT h0 (by omega) hc (by decide)).trans (by have := even_one (q := q) hT (x := i + 1) (by omega) (by omega) hd (by decide); rw [show i + 1 + 1 = i + 2 by omega] at this; exact this))⟩
 rw [h.here hT h0 (by omega) (by rw [hc]; decide), (air_go (q := q) (ph := .val) (st := st) (ph' := .item0) (st' := .arr :: st) hT rfl h0 (by omega) hc (by decide) rfl rfl).1,
  (air_end (q := q) (st := .arr :: st) (ph := .item0) hT rfl (by omega) (by omega) hd (by decide) rfl).1, show i + 1 + 1 = i + 2 by omega]
 rfl
/-- An array's first byte, and a value behind it. -/
theorem AtV.arr (h : AtV q L st i) (hT : Txt L) (h0 : 0 ≤ i) (h1 : i < (L.length : Int) - 1) (hc : rd L i = 91) (hd : rd L (i + 1) ≠ 93) : AtV q L (.arr :: st) (i + 1) := by
 refine ⟨.inr ⟨?_, hd⟩, h.2.trans (even_one hT h0 (by omega) hc (by decide))⟩
 rw [h.here hT h0 h1 (by rw [hc]; decide), (air_go (q := q) (ph := .val) (st := st) (ph' := .item0) (st' := .arr :: st) hT rfl h0 (by omega) hc (by decide) rfl rfl).1]
/-- A name's text and its colon. -/
theorem name_col (hT : Txt L) (h0 : 0 ≤ j) (h1 : j < (L.length : Int) - 1) (hq : rd L j = 34) (hf : fstr L false j = some (e, T)) (he : e < (L.length : Int) - 1) (hc : rd L e = 58) {ph : Ph} (hp : ph = .name0 ∨ ph = .name) :
  out q L ph (.obj :: st) j = out q L .val (.obj :: st) (e + 1) ∧ Even q L j (e + 1) := by
 have hok := fstr_ok (q := q) hT h0 (by omega) hf
 refine ⟨?_, (even_text hT h0 (by omega) hq hf).trans (even_one hT (by omega) he hc (by decide))⟩
 have h2 : out q L ph (.obj :: st) j = out q L .text (.key :: st) (j + 1) := by
  rcases hp with rfl | rfl
  ·exact (air_go (q := q) (ph := .name0) (st := .obj :: st) (ph' := .text) (st' := .key :: st) hT rfl h0 (by omega) hq (by decide) rfl rfl).1
  ·exact (air_go (q := q) (ph := .name) (st := .obj :: st) (ph' := .text) (st' := .key :: st) hT rfl h0 (by omega) hq (by decide) rfl rfl).1
 rw [h2, hok.2.2 (.key :: st), cont_cons]
 exact (air_go (q := q) (ph := .colon) (st := .obj :: st) (ph' := .val) (st' := .obj :: st) hT rfl (by omega) (by omega) hc (by decide) rfl rfl).1
theorem AtV.obj (h : AtV q L st i) (hT : Txt L) (h0 : 0 ≤ i) (h1 : i + 1 < (L.length : Int) - 1) (hc : rd L i = 123) (hq : rd L (i + 1) = 34) (hf : fstr L false (i + 1) = some (e, T)) (he : e < (L.length : Int) - 1) (hd : rd L e = 58) : AtV q L (.obj :: st) (e + 1) := by
 have hn := name_col (q := q) (st := st) hT (by omega) h1 hq hf he hd (.inl rfl)
 refine ⟨.inl ?_, h.2.trans ((even_one hT h0 (by omega) hc (by decide)).trans hn.2)⟩
 rw [h.here hT h0 (by omega) (by rw [hc]; decide), (air_go (q := q) (ph := .val) (st := st) (ph' := .name0) (st' := .obj :: st) hT rfl h0 (by omega) hc (by decide) rfl rfl).1, hn.1]
theorem AtC.member (h : AtC q L (.obj :: st) i) (hT : Txt L) (h0 : 0 ≤ i) (h1 : i + 1 < (L.length : Int) - 1) (hc : rd L i = 44) (hq : rd L (i + 1) = 34) (hf : fstr L false (i + 1) = some (e, T)) (he : e < (L.length : Int) - 1) (hd : rd L e = 58) : AtV q L (.obj :: st) (e + 1) := by
 have hn := name_col (q := q) (st := st) hT (by omega) h1 hq hf he hd (.inr rfl)
 refine ⟨.inl ?_, h.2.trans ((even_one hT h0 (by omega) hc (by decide)).trans hn.2)⟩
 rw [h.1, cont_cons, ← hn.1]
 exact (air_go (q := q) (ph := .memb) (st := .obj :: st) (ph' := .name) (st' := .obj :: st) hT rfl h0 (by omega) hc (by decide) rfl rfl).1
theorem AtC.item (h : AtC q L (.arr :: st) i) (hT : Txt L) (h0 : 0 ≤ i) (h1 : i < (L.length : Int) - 1) (hc : rd L i = 44) : AtV q L (.arr :: st) (i + 1) := by
 refine ⟨.inl ?_, h.2.trans (even_one hT h0 h1 hc (by decide))⟩
 rw [h.1, cont_cons]
 exact (air_go (q := q) (ph := .item) (st := .arr :: st) (ph' := .val) (st' := .arr :: st) hT rfl h0 (by omega) hc (by decide) rfl rfl).1
theorem AtC.shutO (h : AtC q L (.obj :: st) i) (hT : Txt L) (h0 : 0 ≤ i) (h1 : i < (L.length : Int) - 1) (hc : rd L i = 125) : AtC q L st (i + 1) := by
 refine ⟨?_, h.2.trans (even_one hT h0 h1 hc (by decide))⟩
 rw [h.1, cont_cons]
 exact (air_end (q := q) (st := .obj :: st) (ph := .memb) hT rfl h0 (by omega) hc (by decide) rfl).1
theorem AtC.shutA (h : AtC q L (.arr :: st) i) (hT : Txt L) (h0 : 0 ≤ i) (h1 : i < (L.length : Int) - 1) (hc : rd L i = 93) : AtC q L st (i + 1) := by
 refine ⟨?_, h.2.trans (even_one hT h0 h1 hc (by decide))⟩
 rw [h.1, cont_cons]
 exact (air_end (q := q) (st := .arr :: st) (ph := .item) hT rfl h0 (by omega) hc (by decide) rfl).1
theorem AtC.good (h : AtC q L [] i) (hT : Txt L) (hi : i = (L.length : Int) - 1) : Good q L := by
 refine ⟨by rw [h.1, hi]; rfl, fun esc => ?_⟩
 obtain ⟨H, a, b⟩ := h.2 esc
 have hp := hT.pos
 rw [a, b, cw_at hT (by omega) (by omega), if_neg (by omega), ew_at (by omega) (by omega), if_neg (by omega)]
/-- Nothing is left out. -/
theorem Good.all (h : Good q L) (hT : Txt L) : cw q L false L.length 0 = seg L 0 ((L.length : Int) - 1) := by
 have hp := hT.pos
 have key : ∀ (n : Nat) (x : Int), 0 ≤ x → x ≤ (L.length : Int) - 1 → (L.length : Int) - 1 - x = n → ew L false ((L.length : Int) - 1) L.length x = seg L x ((L.length : Int) - 1) := by
  intro n
  induction n with
  | zero => intro x h0 h1 h2; rw [ew_at (by omega) h0, if_neg (by omega), show x = (L.length : Int) - 1 by omega, seg_nil]
  | succ n ih =>
   intro x h0 h1 h2
   rw [ew_at (by omega) h0, if_pos (by omega), if_neg (fun h => by cases h.1), if_neg (fun h => by cases h.1), seg_cons x _ h0 (by omega) (by omega), ih (x + 1) (by omega) (by omega) (by omega)]
 rw [h.2 false]
 exact key (L.length - 1) 0 (by omega) (by omega) (by omega)
end
end Go.Proofs.YtbikiibpjdiaaaaDoor.Err
