/- What is no compact JSON: where the walk says no, it is no value, or something is left out, or it is deeper than 64. -/
import Derived.Test.YtbikiibpjdiaaaaDoorFG
import Derived.Test.YtbikiibpjdiaaaaDoorFJ
namespace Go.Proofs.YtbikiibpjdiaaaaDoor.Err
open Go.RowKit Go.Proofs.YtbikiibpjdiaaaaDoorW.PrintWords Go.Proofs.YtbikiibpjdiaaaaDoorW.PrintLast Go.Proofs.YtbikiibpjdiaaaaDoorW.PrintMore
open Go.Proofs.YtbikiibpjdiaaaaDoor.Dig Go.Proofs.YtbikiibpjdiaaaaDoor.Tab
set_option linter.unusedVariables false
/-- One value, and nothing is left out of it. -/
def Due (q : ByteArray → ByteArray) (l : List Int) : Prop := ff q l .val [] 0 = none ∧ cw q (l ++ [0]) false (l ++ [0]).length 0 = l
/-- The steps from one place to another: the depth so far alone changes. -/
def Run (q : ByteArray → ByteArray) (l : List Int) (ph : Ph) (st : List Br) (i : Int) (ph' : Ph) (st' : List Br) (j : Int) : Prop :=
 ∀ m, ∃ m', dp q (l.drop i.toNat) ph st m = dp q (l.drop j.toNat) ph' st' m'
def numPh : Ph → Bool
 | .minus | .zero | .whole | .point | .frac | .e | .sign | .exp => true
 | _ => false
section
variable {q : ByteArray → ByteArray} {L l T : List Int} {x y i j k e c : Int} {ph ph' ph2 : Ph} {st st' st2 : List Br}
theorem dp_mono (q : ByteArray → ByteArray) : ∀ (l : List Int) (ph : Ph) (st : List Br) (m : Int), m ≤ dp q l ph st m
 | [], _, _, _ => Int.le_refl _
 | c :: r, ph, st, m => by
  show m ≤ match step q c ph st with
   | .error _ => m
   | .ok s => dp q r s.1 s.2 (max m (s.2.length : Int))
  split
  ·exact Int.le_refl _
  ·exact Int.le_trans (by omega) (dp_mono q r _ _ _)
theorem Run.refl : Run q l ph st i ph st i := fun m => ⟨m, rfl⟩
theorem Run.trans (h : Run q l ph st i ph' st' j) (h2 : Run q l ph' st' j ph2 st2 k) : Run q l ph st i ph2 st2 k := fun m => by
 obtain ⟨m1, h3⟩ := h m
 obtain ⟨m2, h4⟩ := h2 m1
 exact ⟨m2, h3.trans h4⟩
theorem dp_step (h0 : 0 ≤ i) (h1 : i < l.length) (hs : step q (rd l i) ph st = .ok (ph', st')) (m : Int) : dp q (l.drop i.toNat) ph st m = dp q (l.drop (i + 1).toNat) ph' st' (max m (st'.length : Int)) := by
 have h := dp_at q l ph st m i.toNat (by omega)
 rw [show ((i.toNat : Nat) : Int) = i by omega, hs] at h
 rw [h, show (i + 1).toNat = i.toNat + 1 by omega]
theorem run_step (h0 : 0 ≤ i) (h1 : i < l.length) (hs : step q (rd l i) ph st = .ok (ph', st')) : Run q l ph st i ph' st' (i + 1) := fun m => ⟨_, dp_step h0 h1 hs m⟩
/-- No value: there is a fault. -/
theorem neg_fault (hd : Due q l) (h : out q (l ++ [0]) .val [] 0 = out q (l ++ [0]) ph st i) (hf : ∃ s, out q (l ++ [0]) ph st i = .fault s) : False := by
 obtain ⟨s, hs⟩ := hf
 rcases out_ff (q := q) l (l.length - 0) 0 .val [] rfl (Nat.zero_le _) rfl with ⟨d, h1, _⟩ | ⟨s', k, e, m, _, h2, _⟩
 ·rw [show ((0 : Nat) : Int) = 0 from rfl, h, hs] at h1
  cases h1
 ·rw [List.drop_zero, show ((0 : Nat) : Int) = 0 from rfl, hd.1] at h2
  cases h2
theorem ew_len0 : ∀ (n : Nat) (x : Int), x ≤ e → ((ew L false e n x).length : Int) ≤ e - x := by
 intro n
 induction n with
 | zero => intro x h; unfold ew; simp; omega
 | succ n ih =>
  intro x h
  unfold ew
  split
  ·rw [if_neg (fun h => by cases h.1), if_neg (fun h => by cases h.1), List.length_cons]
   have := ih (x + 1) (by omega)
   omega
  ·simp; omega
theorem cw_len0 (hT : Txt L) : ∀ (n : Nat) (x : Int), 0 ≤ x → x ≤ (L.length : Int) - 1 → ((cw q L false n x).length : Int) ≤ (L.length : Int) - 1 - x := by
 intro n
 induction n with
 | zero => intro x h0 h1; unfold cw; simp; omega
 | succ n ih =>
  intro x h0 h1
  unfold cw
  split
  ·split
   ·rename_i hq
    have hb := te_bound (q := q) hT h0 (by omega) hq
    have h2 := ew_len0 (L := L) (e := te q L x) L.length x (by omega)
    have h3 := ih (te q L x) (by omega) (by omega)
    rw [List.length_append]
    omega
   split
   ·have := ih (x + 1) (by omega) (by omega); omega
   ·have := ih (x + 1) (by omega) (by omega); rw [List.length_cons]; omega
  ·simp; omega
theorem ew_seg (he : e ≤ L.length) : ∀ (n : Nat) (x : Int), 0 ≤ x → x ≤ e → e - x = n → ew L false e L.length x = seg L x e := by
 intro n
 induction n with
 | zero => intro x h0 h1 h2; rw [ew_at he h0, if_neg (by omega), show x = e by omega, seg_nil]
 | succ n ih =>
  intro x h0 h1 h2
  rw [ew_at he h0, if_pos (by omega), if_neg (fun a => by cases a.1), if_neg (fun a => by cases a.1), seg_cons x _ h0 (by omega) (by omega), ih (x + 1) (by omega) (by omega) (by omega)]
/-- A blank is left out. -/
theorem neg_blank (hT : Txt (l ++ [0])) (hd : Due q l) (he : Even q (l ++ [0]) 0 i) (h0 : 0 ≤ i) (h1 : i < l.length) (hb : isBlank (rd l i)) : False := by
 have hlen : ((l ++ [(0 : Int)]).length : Int) = l.length + 1 := by rw [List.length_append]; rfl
 obtain ⟨H, a, b⟩ := he false
 have hc := cw_at (q := q) (esc := false) hT h0 (by omega)
 rw [if_pos (by omega), rdL h0 h1, if_neg (by unfold isBlank at hb; omega), if_pos hb] at hc
 have h2 := cw_len0 (q := q) hT (l ++ [(0 : Int)]).length (i + 1) (by omega) (by omega)
 have h3 : (ew (l ++ [0]) false (((l ++ [(0 : Int)]).length : Int) - 1) (l ++ [(0 : Int)]).length 0).length = l.length := by
  have := ew_seg (L := l ++ [0]) (e := ((l ++ [(0 : Int)]).length : Int) - 1) (by omega) l.length 0 (by omega) (by omega) (by omega)
  rw [this, seg_len _ _ (by omega) (by omega) (by omega)]
  omega
 have h4 : ((ew (l ++ [0]) false (((l ++ [(0 : Int)]).length : Int) - 1) (l ++ [(0 : Int)]).length i).length : Int) = l.length - i := by
  have := ew_seg (L := l ++ [0]) (e := ((l ++ [(0 : Int)]).length : Int) - 1) (by omega) (l.length - i.toNat) i (by omega) (by omega) (by omega)
  rw [this, seg_len _ _ (by omega) (by omega) (by omega)]
  omega
 have h5 := congrArg List.length hd.2
 have h6 := congrArg List.length b
 rw [a, hc, List.length_append] at h5
 rw [h3, List.length_append] at h6
 omega
/-- At a place between values where the byte is none that may stand there. -/
theorem neg_air (hT : Txt (l ++ [0])) (hd : Due q l) (h : out q (l ++ [0]) .val [] 0 = out q (l ++ [0]) ph st i) (he : Even q (l ++ [0]) 0 i) (ha : airy ph = true) (h0 : 0 ≤ i) (h1 : i ≤ l.length)
  (hm : ¬ isBlank (rd (l ++ [0]) i) → ∃ m, between q (rd (l ++ [0]) i) ph st = .error m) : False := by
 have hlen : ((l ++ [(0 : Int)]).length : Int) = l.length + 1 := by rw [List.length_append]; rfl
 by_cases hb : isBlank (rd (l ++ [0]) i)
 ·by_cases hi : i < l.length
  ·rw [rdL h0 hi] at hb
   exact neg_blank hT hd he h0 hi hb
  ·have := hT.last
   rw [show ((l ++ [(0 : Int)]).length : Int) - 1 = i by omega] at this
   rw [this] at hb
   revert hb
   decide
 ·obtain ⟨m, hm⟩ := hm hb
  exact neg_fault hd h (air_no hT ha h0 (by omega) hm)
theorem begin_no (c : Int) (c1 : c ≠ 123) (c2 : c ≠ 91) (c3 : c ≠ 34) (c4 : ¬ (c = 45 ∨ isDig c)) (c6 : c ≠ 116) (c7 : c ≠ 102) (c8 : c ≠ 110) : ∃ m, begin_ q c st = .error m := by
 unfold begin_
 unfold isDig at c4
 rw [if_neg c1, if_neg c2, if_neg c3, if_neg (by omega), if_neg (by omega), if_neg (by unfold isDig; omega), if_neg c6, if_neg c7, if_neg c8]
 exact ⟨_, rfl⟩
/-- Ahead of a value: no byte that begins one. -/
theorem AtV.neg (h : AtV q (l ++ [0]) st i) (hT : Txt (l ++ [0])) (hd : Due q l) (h0 : 0 ≤ i) (h1 : i ≤ l.length)
  (hc : i < l.length → rd l i ≠ 123 ∧ rd l i ≠ 91 ∧ rd l i ≠ 34 ∧ ¬ (rd l i = 45 ∨ isDig (rd l i)) ∧ rd l i ≠ 116 ∧ rd l i ≠ 102 ∧ rd l i ≠ 110) : False := by
 have hlen : ((l ++ [(0 : Int)]).length : Int) = l.length + 1 := by rw [List.length_append]; rfl
 have hc2 : rd (l ++ [0]) i ≠ 123 ∧ rd (l ++ [0]) i ≠ 91 ∧ rd (l ++ [0]) i ≠ 34 ∧ ¬ (rd (l ++ [0]) i = 45 ∨ isDig (rd (l ++ [0]) i)) ∧ rd (l ++ [0]) i ≠ 116 ∧ rd (l ++ [0]) i ≠ 102 ∧ rd (l ++ [0]) i ≠ 110 := by
  by_cases hi : i < l.length
  ·rw [rdL h0 hi]; exact hc hi
  ·have := hT.last
   rw [show ((l ++ [(0 : Int)]).length : Int) - 1 = i by omega] at this
   rw [this]
   decide
 obtain ⟨k1, k2, k3, k4, k5, k6, k7⟩ := hc2
 have hb := fun st => begin_no (q := q) (st := st) _ k1 k2 k3 k4 k5 k6 k7
 rcases h.1 with h2 | ⟨h2, h3⟩
 ·refine neg_air hT hd h2 h.2 rfl h0 h1 (fun hn => ?_)
  unfold between
  rw [if_neg hn]
  exact hb st
 ·refine neg_air hT hd h2 h.2 rfl h0 h1 (fun hn => ?_)
  obtain ⟨m, hm⟩ := hb st
  unfold between
  rw [if_neg hn]
  show ∃ m, (if rd (l ++ [0]) i = 93 then _ else _) = _
  rw [if_neg h3]
  exact ⟨m, hm⟩
/-- A text, a word, a number that is none. -/
theorem AtV.neg_text (h : AtV q (l ++ [0]) st i) (hT : Txt (l ++ [0])) (hd : Due q l) (h0 : 0 ≤ i) (h1 : i < l.length) (hq : rd l i = 34) (hf : fstr (l ++ [0]) false i = none) : False := by
 have hlen : ((l ++ [(0 : Int)]).length : Int) = l.length + 1 := by rw [List.length_append]; rfl
 have hq2 : rd (l ++ [0]) i = 34 := by rw [rdL h0 h1]; exact hq
 have hv := val_text (q := q) (st := st) hT h0 (by omega) hq2
 refine neg_fault hd ((h.here hT h0 (by omega) (by rw [hq2]; decide)).trans hv.1) ?_
 exact fstr_none hT h0 (by omega) hf st
theorem AtV.neg_lit {w : List Int} (h : AtV q (l ++ [0]) st i) (hT : Txt (l ++ [0])) (hd : Due q l) (h0 : 0 ≤ i) (h1 : i < l.length) (hw : Lit_ w) (hc : rd l i = w.getD 0 0) (hb : ¬ isBlank (rd l i)) (hv : ∀ st, out q (l ++ [0]) .val st i = out q (l ++ [0]) (.word w 1) st (i + 1)) (hf : flit (l ++ [0]) i w = none) : False := by
 have hlen : ((l ++ [(0 : Int)]).length : Int) = l.length + 1 := by rw [List.length_append]; rfl
 refine neg_fault hd (h.here hT h0 (by omega) (by rw [rdL h0 h1]; exact hb)) ?_
 exact flit_none hw hT h0 (by omega) (by rw [rdL h0 h1]; exact hc) hv hf st
theorem AtV.neg_num (h : AtV q (l ++ [0]) st i) (hT : Txt (l ++ [0])) (hd : Due q l) (h0 : 0 ≤ i) (h1 : i < l.length) (hc : rd l i = 45 ∨ isDig (rd l i)) (hf : fnum (l ++ [0]) i = none) : False := by
 have hlen : ((l ++ [(0 : Int)]).length : Int) = l.length + 1 := by rw [List.length_append]; rfl
 obtain ⟨s, hs⟩ := fnum_none (q := q) hT h0 (by omega) (by rw [rdL h0 h1]; exact hc) hf
 refine neg_fault hd (h.here hT h0 (by omega) (by rw [rdL h0 h1]; unfold isBlank; unfold isDig at hc; omega)) ⟨s, hs st⟩
/-- Where a name stands (behind an object's first byte, or behind a comma). -/
def AtN (q : ByteArray → ByteArray) (L : List Int) (st : List Br) (i : Int) : Prop :=
 (out q L .val [] 0 = out q L .name (.obj :: st) i ∨ (out q L .val [] 0 = out q L .name0 (.obj :: st) i ∧ rd L i ≠ 125)) ∧ Even q L 0 i
theorem AtV.name (h : AtV q (l ++ [0]) st i) (hT : Txt (l ++ [0])) (h0 : 0 ≤ i) (h1 : i < l.length) (hc : rd l i = 123) (hn : rd (l ++ [0]) (i + 1) ≠ 125) : AtN q (l ++ [0]) st (i + 1) := by
 have hlen : ((l ++ [(0 : Int)]).length : Int) = l.length + 1 := by rw [List.length_append]; rfl
 have hc2 : rd (l ++ [0]) i = 123 := by rw [rdL h0 h1]; exact hc
 refine ⟨.inr ⟨?_, hn⟩, h.2.trans (even_one hT h0 (by omega) hc2 (by decide))⟩
 rw [h.here hT h0 (by omega) (by rw [hc2]; decide)]
 exact (val_obj hT h0 (by omega) hc2).1
theorem AtC.name (h : AtC q (l ++ [0]) (.obj :: st) i) (hT : Txt (l ++ [0])) (h0 : 0 ≤ i) (h1 : i < l.length) (hc : rd l i = 44) : AtN q (l ++ [0]) st (i + 1) := by
 have hlen : ((l ++ [(0 : Int)]).length : Int) = l.length + 1 := by rw [List.length_append]; rfl
 have hc2 : rd (l ++ [0]) i = 44 := by rw [rdL h0 h1]; exact hc
 refine ⟨.inl ?_, h.2.trans (even_one hT h0 (by omega) hc2 (by decide))⟩
 rw [h.1, cont_cons]
 exact (air_go (q := q) (ph := .memb) (st := .obj :: st) (ph' := .name) (st' := .obj :: st) hT rfl h0 (by omega) hc2 (by decide) rfl rfl).1
theorem AtN.neg (h : AtN q (l ++ [0]) st i) (hT : Txt (l ++ [0])) (hd : Due q l) (h0 : 0 ≤ i) (h1 : i ≤ l.length) (hc : i < l.length → rd l i ≠ 34) : False := by
 have hlen : ((l ++ [(0 : Int)]).length : Int) = l.length + 1 := by rw [List.length_append]; rfl
 have hc2 : rd (l ++ [0]) i ≠ 34 := by
  by_cases hi : i < l.length
  ·rw [rdL h0 hi]; exact hc hi
  ·have := hT.last
   rw [show ((l ++ [(0 : Int)]).length : Int) - 1 = i by omega] at this
   rw [this]
   decide
 rcases h.1 with h2 | ⟨h2, h3⟩
 ·exact neg_air hT hd h2 h.2 rfl h0 h1 (fun hn => ⟨_, name_no hn hc2⟩)
 ·refine neg_air hT hd h2 h.2 rfl h0 h1 (fun hn => ?_)
  unfold between
  rw [if_neg hn]
  show ∃ m, (if rd (l ++ [0]) i = 125 then _ else _) = _
  rw [if_neg h3]
  show ∃ m, nameOf q _ _ = _
  unfold nameOf
  rw [if_neg hc2]
  exact ⟨_, rfl⟩
theorem AtN.text (h : AtN q (l ++ [0]) st i) (hT : Txt (l ++ [0])) (h0 : 0 ≤ i) (h1 : i < l.length) (hq : rd l i = 34) : out q (l ++ [0]) .val [] 0 = out q (l ++ [0]) .text (.key :: st) (i + 1) := by
 have hlen : ((l ++ [(0 : Int)]).length : Int) = l.length + 1 := by rw [List.length_append]; rfl
 have hq2 : rd (l ++ [0]) i = 34 := by rw [rdL h0 h1]; exact hq
 rcases h.1 with h2 | ⟨h2, h3⟩
 ·exact h2.trans (air_go (q := q) (ph := .name) (st := .obj :: st) (ph' := .text) (st' := .key :: st) hT rfl h0 (by omega) hq2 (by decide) rfl rfl).1
 ·exact h2.trans (air_go (q := q) (ph := .name0) (st := .obj :: st) (ph' := .text) (st' := .key :: st) hT rfl h0 (by omega) hq2 (by decide) rfl rfl).1
theorem AtN.neg_text (h : AtN q (l ++ [0]) st i) (hT : Txt (l ++ [0])) (hd : Due q l) (h0 : 0 ≤ i) (h1 : i < l.length) (hq : rd l i = 34) (hf : fstr (l ++ [0]) false i = none) : False := by
 have hlen : ((l ++ [(0 : Int)]).length : Int) = l.length + 1 := by rw [List.length_append]; rfl
 exact neg_fault hd (h.text hT h0 h1 hq) (fstr_none hT h0 (by omega) hf _)
theorem AtN.neg_colon (h : AtN q (l ++ [0]) st i) (hT : Txt (l ++ [0])) (hd : Due q l) (h0 : 0 ≤ i) (h1 : i < l.length) (hq : rd l i = 34) (hf : fstr (l ++ [0]) false i = some (e, T)) (hc : e < l.length → rd l e ≠ 58) : False := by
 have hlen : ((l ++ [(0 : Int)]).length : Int) = l.length + 1 := by rw [List.length_append]; rfl
 have hok := fstr_ok (q := q) hT h0 (by omega) hf
 have hc2 : rd (l ++ [0]) e ≠ 58 := by
  by_cases hi : e < l.length
  ·rw [rdL (by omega) hi]; exact hc hi
  ·have := hT.last
   rw [show ((l ++ [(0 : Int)]).length : Int) - 1 = e by omega] at this
   rw [this]
   decide
 have ho := (h.text hT h0 h1 hq).trans (hok.2.2 (.key :: st))
 rw [cont_cons] at ho
 exact neg_air (ph := .colon) (st := .obj :: st) hT hd ho (h.2.trans (even_text hT h0 (by omega) (by rw [rdL h0 h1]; exact hq) hf)) rfl (by omega) (by omega) (fun hn => ⟨_, colon_no hn hc2⟩)
/-- Behind a value: neither a comma nor the closing bracket. -/
theorem AtC.neg {b : Br} (h : AtC q (l ++ [0]) (b :: st) i) (hT : Txt (l ++ [0])) (hd : Due q l) (hk : b ≠ .key) (h0 : 0 ≤ i) (h1 : i ≤ l.length) (hc : i < l.length → rd l i ≠ 44 ∧ (b = .obj → rd l i ≠ 125) ∧ (b = .arr → rd l i ≠ 93)) : False := by
 have hlen : ((l ++ [(0 : Int)]).length : Int) = l.length + 1 := by rw [List.length_append]; rfl
 have hc2 : rd (l ++ [0]) i ≠ 44 ∧ (b = .obj → rd (l ++ [0]) i ≠ 125) ∧ (b = .arr → rd (l ++ [0]) i ≠ 93) := by
  by_cases hi : i < l.length
  ·rw [rdL h0 hi]; exact hc hi
  ·have := hT.last
   rw [show ((l ++ [(0 : Int)]).length : Int) - 1 = i by omega] at this
   rw [this]
   exact ⟨by decide, fun _ => by decide, fun _ => by decide⟩
 have ho := h.1
 rw [cont_cons] at ho
 cases b with
 | key => exact hk rfl
 | obj => exact neg_air (ph := .memb) (st := .obj :: st) hT hd ho h.2 rfl h0 h1 (fun hn => ⟨_, memb_no hn hc2.1 (hc2.2.1 rfl)⟩)
 | arr => exact neg_air (ph := .item) (st := .arr :: st) hT hd ho h.2 rfl h0 h1 (fun hn => ⟨_, item_no hn hc2.1 (hc2.2.2 rfl)⟩)
/-- The value ends too soon. -/
theorem AtC.neg_end (h : AtC q (l ++ [0]) [] i) (hT : Txt (l ++ [0])) (hd : Due q l) (h0 : 0 ≤ i) (h1 : i < l.length) : False := by
 rcases out_ff (q := q) l (l.length - 0) 0 .val [] rfl (Nat.zero_le _) rfl with ⟨d, k1, _, _, k2⟩ | ⟨s', k, e, m, k1, _⟩
 ·rw [show ((0 : Nat) : Int) = 0 from rfl, h.1] at k1
  have hdi : (d : Int) = i := by
   have : contO q (l ++ [0]) [] i = .done i := rfl
   rw [this] at k1
   cases k1
   rfl
  rw [List.drop_zero, show ((0 : Nat) : Int) = 0 from rfl, hd.1, ff_at q l .all [] d (by omega), hdi] at k2
  by_cases hb : isBlank (rd l i)
  ·exact neg_blank hT hd h.2 h0 h1 hb
  ·have hs : step q (rd l i) .all [] = .error (badWords q (rd l i) wAfterTop, false) := by
    show between q (rd l i) .all [] = _
    unfold between
    rw [if_neg hb]
   rw [hs] at k2
   cases k2
 ·rw [show ((0 : Nat) : Int) = 0 from rfl, h.1] at k1
  cases k1
end
end Go.Proofs.YtbikiibpjdiaaaaDoor.Err
/- How deep: the steps over a text, a word, a number leave the depth as it is. -/
namespace Go.Proofs.YtbikiibpjdiaaaaDoor.Err
open Go.RowKit Go.Proofs.YtbikiibpjdiaaaaDoorW.PrintWords Go.Proofs.YtbikiibpjdiaaaaDoorW.PrintLast Go.Proofs.YtbikiibpjdiaaaaDoorW.PrintMore
open Go.Proofs.YtbikiibpjdiaaaaDoor.Dig Go.Proofs.YtbikiibpjdiaaaaDoor.Tab
set_option linter.unusedVariables false
section
variable {q : ByteArray → ByteArray} {L l T : List Int} {x y i j k e c : Int} {ph ph' ph2 : Ph} {st st' st2 : List Br}
theorem runL (h0 : 0 ≤ i) (h1 : i < l.length) (hs : step q (rd (l ++ [0]) i) ph st = .ok (ph', st')) : Run q l ph st i ph' st' (i + 1) := run_step h0 h1 (by rw [← rdL h0 h1]; exact hs)
theorem run_esc (hT : Txt (l ++ [0])) (h0 : 0 ≤ x) (h1 : x < ((l ++ [(0 : Int)]).length : Int)) {d : Int} (h : escF (l ++ [0]) x = some d) : Run q l .esc st x .text st d := by
 have hlen : ((l ++ [(0 : Int)]).length : Int) = l.length + 1 := by rw [List.length_append]; rfl
 have hg := escF_gt hT h0 h1 h
 unfold escF at h
 split at h
 ·rename_i he
  cases h
  refine runL h0 (by omega) ?_
  show (if isEsc _ then _ else _) = _
  rw [if_pos he]
 split at h
 ·rename_i hu
  cases h
  have hne : ¬ isEsc (rd (l ++ [0]) x) := by rw [hu.1]; decide
  have s0 : Run q l .esc st x (.dig 0) st (x + 1) := runL h0 (by omega) (by
   show (if isEsc _ then _ else if rd (l ++ [0]) x = 117 then _ else _) = _
   rw [if_neg hne, if_pos hu.1])
  have dg : ∀ (k : Nat) (y : Int), 0 ≤ y → y < l.length → isHex (rd (l ++ [0]) y) → k + 1 ≠ 4 → Run q l (.dig k) st y (.dig (k + 1)) st (y + 1) := fun k y a b hh hk => runL a b (by
   rw [step_dig, if_pos hh, if_neg hk])
  have s1 := dg 0 (x + 1) (by omega) (by omega) hu.2.1 (by decide)
  have s2 := dg 1 (x + 1 + 1) (by omega) (by omega) (by rw [show x + 1 + 1 = x + 2 by omega]; exact hu.2.2.1) (by decide)
  have s3 := dg 2 (x + 1 + 1 + 1) (by omega) (by omega) (by rw [show x + 1 + 1 + 1 = x + 3 by omega]; exact hu.2.2.2.1) (by decide)
  have s4 : Run q l (.dig 3) st (x + 1 + 1 + 1 + 1) .text st (x + 1 + 1 + 1 + 1 + 1) := runL (by omega) (by omega) (by
   rw [step_dig, if_pos (by rw [show x + 1 + 1 + 1 + 1 = x + 4 by omega]; exact hu.2.2.2.2), if_pos (by decide)])
  have := (((s0.trans s1).trans s2).trans s3).trans s4
  rw [show x + 1 + 1 + 1 + 1 + 1 = x + 5 by omega] at this
  exact this
 ·cases h
theorem run_fs (hT : Txt (l ++ [0])) : ∀ (n : Nat) (x e : Int) (T : List Int), 0 ≤ x → x < ((l ++ [(0 : Int)]).length : Int) → fs (l ++ [0]) false n x = some (e, T) → Run q l .text st x (closed st).1 (closed st).2 e := by
 have hlen : ((l ++ [(0 : Int)]).length : Int) = l.length + 1 := by rw [List.length_append]; rfl
 intro n
 induction n with
 | zero => intro x e T h0 h1 h; cases h
 | succ n ih =>
  intro x e T h0 h1 h
  unfold fs at h
  split at h
  ·rename_i hc
   have hin := hT.inside h0 h1 (by omega)
   cases h
   refine runL h0 (by omega) ?_
   show (if _ = (34 : Int) then _ else _) = _
   rw [if_pos hc]
  rename_i c34
  split at h
  ·rename_i hc
   have hin := hT.inside h0 h1 (by omega)
   split at h
   ·cases h
   ·rename_i d hd
    have hg := escF_gt hT (by omega) (by omega) hd
    obtain ⟨⟨e1, T1⟩, hr, he⟩ := Option.map_eq_some_iff.1 h
    cases he
    have s0 : Run q l .text st x .esc st (x + 1) := runL h0 (by omega) (by
     show (if _ = (34 : Int) then _ else if _ = (92 : Int) then _ else _) = _
     rw [if_neg c34, if_pos hc])
    exact (s0.trans (run_esc hT (by omega) (by omega) hd)).trans (ih d e1 T1 (by omega) hg.2 hr)
  rename_i c92
  split at h
  ·cases h
  rename_i c32
  have hin := hT.inside h0 h1 (by omega)
  rw [if_neg (fun a => by cases a.1), if_neg (fun a => by cases a.1)] at h
  obtain ⟨⟨e1, T1⟩, hr, he⟩ := Option.map_eq_some_iff.1 h
  cases he
  have s0 : Run q l .text st x .text st (x + 1) := runL h0 (by omega) (by
   show (if _ = (34 : Int) then _ else if _ = (92 : Int) then _ else if _ < (32 : Int) then _ else _) = _
   rw [if_neg c34, if_neg c92, if_neg c32])
  exact s0.trans (ih (x + 1) e1 T1 (by omega) (by omega) hr)
theorem run_text (hT : Txt (l ++ [0])) (h0 : 0 ≤ x) (h1 : x + 1 < ((l ++ [(0 : Int)]).length : Int)) (h : fstr (l ++ [0]) false x = some (e, T)) : Run q l .text st (x + 1) (closed st).1 (closed st).2 e := by
 unfold fstr at h
 obtain ⟨⟨e1, T1⟩, hr, he⟩ := Option.map_eq_some_iff.1 h
 cases he
 exact run_fs hT _ _ _ _ (by omega) h1 hr
/-- A word's letters. -/
theorem run_word {w : List Int} (hT : Txt (l ++ [0])) (h0 : 0 ≤ x) (hin : x + w.length ≤ l.length) (hr : ∀ k : Nat, k < w.length → rd (l ++ [0]) (x + k) = w.getD k 0) : ∀ m k : Nat, k + m = w.length → 1 ≤ m → Run q l (.word w k) st (x + k) (closed st).1 (closed st).2 (x + w.length) := by
 intro m
 induction m with
 | zero => intro k h1 h2; omega
 | succ m ih =>
  intro k h1 h2
  by_cases hm : m = 0
  ·have hs : step q (rd (l ++ [0]) (x + k)) (.word w k) st = .ok (closed st) := by
    rw [step_word, if_pos (hr k (by omega)), if_pos (by omega)]
   have := runL (st' := (closed st).2) (ph' := (closed st).1) (i := x + k) (by omega) (by omega) hs
   rw [show x + (k : Int) + 1 = x + w.length by omega] at this
   exact this
  ·have hs : step q (rd (l ++ [0]) (x + k)) (.word w k) st = .ok (.word w (k + 1), st) := by
    rw [step_word, if_pos (hr k (by omega)), if_neg (by omega)]
   have s0 := runL (i := x + k) (by omega) (by omega) hs
   have s1 := ih (k + 1) (by omega) (by omega)
   rw [show x + (((k + 1 : Nat)) : Int) = x + k + 1 by omega] at s1
   exact s0.trans s1
theorem run_lit {w : List Int} (hw : Lit_ w) (hT : Txt (l ++ [0])) (h0 : 0 ≤ x) (h1 : x < l.length) (hv : ∀ st, step q (rd (l ++ [0]) x) .val st = .ok (.word w 1, st)) (h : flit (l ++ [0]) x w = some (e, T)) : Run q l .val st x (closed st).1 (closed st).2 e := by
 have hlen : ((l ++ [(0 : Int)]).length : Int) = l.length + 1 := by rw [List.length_append]; rfl
 have hg := flit_gt hT h0 (by omega) (by have := hw.len; omega) hw.pos h
 unfold flit at h
 split at h
 ·rename_i hs
  simp only [Option.some.injEq, Prod.mk.injEq] at h
  obtain ⟨rfl, _⟩ := h
  have hl := hw.len
  have s0 := runL (q := q) h0 h1 (hv st)
  have s1 := run_word (q := q) (st := st) (w := w) hT h0 (by omega) (fun k hk => by
   have := seg_get (L := l ++ [0]) x (x + w.length) k h0 (by omega) (by omega)
   rw [hs] at this
   rw [List.getD_eq_getElem?_getD, this]
   rfl) (w.length - 1) 1 (by omega) (by omega)
  exact s0.trans s1
 ·cases h
theorem between_num (hc : numC c) (st : List Br) : ∃ m, between q c (closed st).1 (closed st).2 = .error m := by
 unfold numC isDig at hc
 have hb : ¬ isBlank c := by unfold isBlank; omega
 match st with
 | [] => exact ⟨_, by unfold between; rw [if_neg hb]; rfl⟩
 | .key :: r => exact ⟨_, by show between q c .colon _ = _; unfold between; rw [if_neg hb]; exact if_neg (by omega)⟩
 | .obj :: r => exact ⟨_, by show between q c .memb _ = _; unfold between; rw [if_neg hb]; show (if c = 44 then _ else _) = _; rw [if_neg (by omega), if_neg (by omega)]⟩
 | .arr :: r => exact ⟨_, by show between q c .item _ = _; unfold between; rw [if_neg hb]; show (if c = 44 then _ else _) = _; rw [if_neg (by omega), if_neg (by omega)]⟩
/-- A number's step: on within the number, or no step. -/
theorem num_more (q : ByteArray → ByteArray) (c : Int) (ph : Ph) (hp : numPh ph = true) (d p x : Bool) : (∃ ph', numPh ph' = true ∧ ∀ st, numMore q c ph st d p x = .ok (ph', st)) ∨ (∀ st, numMore q c ph st d p x = between q c (closed st).1 (closed st).2) := by
 unfold numMore
 by_cases h1 : d = true ∧ isDig c
 ·exact .inl ⟨ph, hp, fun st => by rw [if_pos h1]⟩
 by_cases h2 : p = true ∧ c = 46
 ·exact .inl ⟨.point, rfl, fun st => by rw [if_neg h1, if_pos h2]⟩
 by_cases h3 : x = true ∧ (c = 101 ∨ c = 69)
 ·exact .inl ⟨.e, rfl, fun st => by rw [if_neg h1, if_neg h2, if_pos h3]⟩
 ·exact .inr fun st => by rw [if_neg h1, if_neg h2, if_neg h3]
theorem num_step (q : ByteArray → ByteArray) (c : Int) (ph : Ph) (hp : numPh ph = true) :
  (∃ ph', numPh ph' = true ∧ ∀ st, step q c ph st = .ok (ph', st)) ∨ (numFinal ph = true ∧ ∀ st, step q c ph st = between q c (closed st).1 (closed st).2) ∨ (numFinal ph = false ∧ ∀ st, ∃ m, step q c ph st = .error m) := by
 cases ph <;> first | (cases hp; done) | skip
 case minus =>
  by_cases h1 : c = 48
  ·exact .inl ⟨.zero, rfl, fun st => by rw [step_minus, if_pos h1]⟩
  by_cases h2 : isDig c
  ·exact .inl ⟨.whole, rfl, fun st => by rw [step_minus, if_neg h1, if_pos h2]⟩
  ·exact .inr (.inr ⟨rfl, fun st => ⟨_, by rw [step_minus, if_neg h1, if_neg h2]⟩⟩)
 case zero =>
  rcases num_more q c .zero rfl false true true with h | h
  ·exact .inl h
  ·exact .inr (.inl ⟨rfl, h⟩)
 case whole =>
  rcases num_more q c .whole rfl true true true with h | h
  ·exact .inl h
  ·exact .inr (.inl ⟨rfl, h⟩)
 case point =>
  by_cases h2 : isDig c
  ·exact .inl ⟨.frac, rfl, fun st => by show (if isDig c then _ else _) = _; rw [if_pos h2]⟩
  ·exact .inr (.inr ⟨rfl, fun st => ⟨_, by show (if isDig c then _ else _) = _; rw [if_neg h2]⟩⟩)
 case frac =>
  rcases num_more q c .frac rfl true false true with h | h
  ·exact .inl h
  ·exact .inr (.inl ⟨rfl, h⟩)
 case e =>
  by_cases h1 : c = 43 ∨ c = 45
  ·exact .inl ⟨.sign, rfl, fun st => by rw [step_e, if_pos h1]⟩
  by_cases h2 : isDig c
  ·exact .inl ⟨.exp, rfl, fun st => by rw [step_e, if_neg h1, if_pos h2]⟩
  ·exact .inr (.inr ⟨rfl, fun st => ⟨_, by rw [step_e, if_neg h1, if_neg h2]⟩⟩)
 case sign =>
  by_cases h2 : isDig c
  ·exact .inl ⟨.exp, rfl, fun st => by show (if isDig c then _ else _) = _; rw [if_pos h2]⟩
  ·exact .inr (.inr ⟨rfl, fun st => ⟨_, by show (if isDig c then _ else _) = _; rw [if_neg h2]⟩⟩)
 case exp =>
  rcases num_more q c .exp rfl true false false with h | h
  ·exact .inl h
  ·exact .inr (.inl ⟨rfl, h⟩)
theorem num_phase (ph : Ph) (hp : numPh ph = true) : isAll ph = false := by cases ph <;> first | rfl | cases hp
theorem out_ge (h0 : 0 ≤ i) (h1 : i ≤ l.length) (hp : isAll ph = false) {d : Int} (h : out q (l ++ [0]) ph st i = .done d) : i ≤ d := by
 rcases out_ff (q := q) l (l.length - i.toNat) i.toNat ph st rfl (by omega) hp with ⟨d2, k1, k2, _⟩ | ⟨s, k, e, m, k1, _⟩
 ·rw [show ((i.toNat : Nat) : Int) = i by omega, h] at k1
  cases k1
  omega
 ·rw [show ((i.toNat : Nat) : Int) = i by omega, h] at k1
  cases k1
theorem run_num (hT : Txt (l ++ [0])) (h0 : 0 ≤ x) (h1 : x < l.length) (hc : rd l x = 45 ∨ isDig (rd l x)) (h : fnum (l ++ [0]) x = some (e, T)) : Run q l .val st x (closed st).1 (closed st).2 e := by
 have hlen : ((l ++ [(0 : Int)]).length : Int) = l.length + 1 := by rw [List.length_append]; rfl
 have hcL : rd (l ++ [0]) x = 45 ∨ isDig (rd (l ++ [0]) x) := by rw [rdL h0 h1]; exact hc
 have hok := fnum_ok (q := q) hT h0 (by omega) hcL h
 have hch := fnum_chars hT h0 (by omega) hcL h
 have hend : out q (l ++ [0]) .val [] x = .done e := hok.2.2.2 []
 have first : ∃ ph, numPh ph = true ∧ ∀ st, step q (rd (l ++ [0]) x) .val st = .ok (ph, st) := by
  rcases hcL with h | h
  ·exact ⟨.minus, rfl, fun st => by rw [h]; exact begin_minus q st⟩
  ·by_cases hz : rd (l ++ [0]) x = 48
   ·exact ⟨.zero, rfl, fun st => by rw [hz]; exact begin_zero q st⟩
   ·exact ⟨.whole, rfl, fun st => begin_whole q _ st h hz⟩
 have main : ∀ (n : Nat) (j : Int), x + 1 ≤ j → j ≤ e → j - x - 1 = n → ∃ ph, numPh ph = true ∧ Run q l .val st x ph st j ∧ out q (l ++ [0]) ph [] j = .done e := by
  intro n
  induction n with
  | zero =>
   intro j hj hje hn
   obtain ⟨ph, hp, hs⟩ := first
   rw [show j = x + 1 by omega]
   exact ⟨ph, hp, runL h0 h1 (hs st), by rw [← out_step h0 (by omega) (hs []) (num_phase ph hp)]; exact hend⟩
  | succ n ih =>
   intro j hj hje hn
   obtain ⟨ph, hp, hr, ho⟩ := ih (j - 1) (by omega) (by omega) (by omega)
   have hcj := hch (j - 1) (by omega) (by omega)
   have bad : ∀ m, step q (rd (l ++ [0]) (j - 1)) ph [] ≠ .error m := fun m hm => by
    rw [out_at q (l ++ [0]) ph [] (j - 1) (by omega) (by omega), hm] at ho
    simp only at ho
    split at ho
    ·cases ho; omega
    ·cases ho
   rcases num_step q (rd (l ++ [0]) (j - 1)) ph hp with ⟨ph', hp', hs⟩ | ⟨_, hs⟩ | ⟨_, hs⟩
   ·have hr2 := runL (q := q) (i := j - 1) (by omega) (by omega) (hs st)
    have ho2 := out_step (q := q) (L := l ++ [0]) (x := j - 1) (by omega) (by omega) (hs []) (num_phase ph' hp')
    rw [show j - 1 + 1 = j by omega] at hr2 ho2
    exact ⟨ph', hp', hr.trans hr2, by rw [← ho2]; exact ho⟩
   ·obtain ⟨m, hm⟩ := between_num (q := q) hcj []
    exact absurd ((hs []).trans hm) (bad m)
   ·obtain ⟨m, hm⟩ := hs []
    exact absurd hm (bad m)
 obtain ⟨ph, hp, hr, ho⟩ := main (e - x - 1).toNat e (by omega) (Int.le_refl _) (by omega)
 refine hr.trans (fun m => ⟨m, ?_⟩)
 by_cases he : e < l.length
 ·have hb : ∀ st, step q (rd l e) ph st = between q (rd l e) (closed st).1 (closed st).2 := by
   rw [← rdL (by omega) he]
   rcases num_step q (rd (l ++ [0]) e) ph hp with ⟨ph', hp', hs⟩ | ⟨_, hs⟩ | ⟨hf, hs⟩
   ·exfalso
    rw [out_step (q := q) (L := l ++ [0]) (x := e) (by omega) (by omega) (hs []) (num_phase ph' hp')] at ho
    have := out_ge (by omega) (by omega) (num_phase ph' hp') ho
    omega
   ·exact hs
   ·exfalso
    obtain ⟨m, hm⟩ := hs []
    rw [out_at q (l ++ [0]) ph [] e (by omega) (by omega), hm] at ho
    simp only at ho
    have : ender ph [] = false := by unfold ender; rw [hf]; rfl
    rw [this] at ho
    cases ho
  have d1 := dp_at q l ph st m e.toNat (by omega)
  have d2 := dp_at q l (closed st).1 (closed st).2 m e.toNat (by omega)
  rw [show ((e.toNat : Nat) : Int) = e by omega] at d1 d2
  rw [d1, d2, hb st]
  have hcl : step q (rd l e) (closed st).1 (closed st).2 = between q (rd l e) (closed st).1 (closed st).2 := by
   match st with
   | [] => rfl
   | .key :: r => rfl
   | .obj :: r => rfl
   | .arr :: r => rfl
  rw [hcl]
 ·rw [dp_end q l ph st m e.toNat (by omega), dp_end q l (closed st).1 (closed st).2 m e.toNat (by omega)]
end
end Go.Proofs.YtbikiibpjdiaaaaDoor.Err
/- The places of compact JSON, and how deep they are. -/
namespace Go.Proofs.YtbikiibpjdiaaaaDoor.Err
open Go.RowKit Go.Proofs.YtbikiibpjdiaaaaDoorW.PrintWords Go.Proofs.YtbikiibpjdiaaaaDoorW.PrintLast Go.Proofs.YtbikiibpjdiaaaaDoorW.PrintMore
open Go.Proofs.YtbikiibpjdiaaaaDoor.Dig Go.Proofs.YtbikiibpjdiaaaaDoor.Tab
set_option linter.unusedVariables false
/-- Ahead of a value; behind one: with the steps that lead there. -/
structure VAt (q : ByteArray → ByteArray) (l : List Int) (st : List Br) (i : Int) : Prop where
 v : AtV q (l ++ [0]) st i
 r : Run q l .val [] 0 .val st i ∨ Run q l .val [] 0 .item0 st i
structure CAt (q : ByteArray → ByteArray) (l : List Int) (st : List Br) (i : Int) : Prop where
 c : AtC q (l ++ [0]) st i
 r : Run q l .val [] 0 (closed st).1 (closed st).2 i
structure NAt (q : ByteArray → ByteArray) (l : List Int) (st : List Br) (i : Int) : Prop where
 n : AtN q (l ++ [0]) st i
 r : Run q l .val [] 0 .name (.obj :: st) i ∨ Run q l .val [] 0 .name0 (.obj :: st) i
section
variable {q : ByteArray → ByteArray} {l T : List Int} {i e c : Int} {st : List Br}
theorem len1 : ((l ++ [(0 : Int)]).length : Int) = l.length + 1 := by rw [List.length_append]; rfl
theorem vAt0 : VAt q l [] 0 := ⟨atV0, .inl Run.refl⟩
theorem run_same {ph ph' : Ph} {st st' : List Br} (h0 : 0 ≤ i) (h1 : i < l.length) (hs : step q (rd l i) ph st = step q (rd l i) ph' st') : Run q l ph st i ph' st' i := fun m => ⟨m, by
 have d1 := dp_at q l ph st m i.toNat (by omega)
 have d2 := dp_at q l ph' st' m i.toNat (by omega)
 rw [show ((i.toNat : Nat) : Int) = i by omega] at d1 d2
 rw [d1, d2, hs]⟩
theorem VAt.run (h : VAt q l st i) (h0 : 0 ≤ i) (h1 : i < ((l ++ [(0 : Int)]).length : Int) - 1) (hb : ¬ isBlank (rd (l ++ [0]) i)) (h93 : rd (l ++ [0]) i ≠ 93) : Run q l .val [] 0 .val st i := by
 rw [len1] at h1
 rw [rdL h0 (by omega)] at hb h93
 rcases h.r with h2 | h2
 ·exact h2
 ·refine h2.trans (run_same h0 (by omega) ?_)
  show between q (rd l i) .item0 st = between q (rd l i) .val st
  unfold between
  rw [if_neg hb, if_neg hb]
  exact if_neg h93
theorem VAt.text (h : VAt q l st i) (hT : Txt (l ++ [0])) (h0 : 0 ≤ i) (h1 : i < ((l ++ [(0 : Int)]).length : Int) - 1) (hq : rd (l ++ [0]) i = 34) (hf : fstr (l ++ [0]) false i = some (e, T)) : CAt q l st e := by
 refine ⟨h.v.text hT h0 h1 hq hf, ?_⟩
 have s0 : Run q l .val st i .text st (i + 1) := runL h0 (by rw [len1] at h1; omega) (by rw [hq]; rfl)
 exact ((h.run h0 h1 (by rw [hq]; decide) (by rw [hq]; decide)).trans s0).trans (run_text hT h0 (by omega) hf)
theorem VAt.lit {w : List Int} (h : VAt q l st i) (hT : Txt (l ++ [0])) (h0 : 0 ≤ i) (h1 : i < ((l ++ [(0 : Int)]).length : Int) - 1) (hl : Lit_ w) (hb : ∀ c ∈ w, c ≠ 0 ∧ c ≠ 34 ∧ ¬ isBlank c ∧ ¬ sign c ∧ c ≠ 226) (hc : ¬ isBlank (rd (l ++ [0]) i)) (h93 : rd (l ++ [0]) i ≠ 93) (hs : ∀ st, step q (rd (l ++ [0]) i) .val st = .ok (.word w 1, st)) (hv : ∀ st, out q (l ++ [0]) .val st i = out q (l ++ [0]) (.word w 1) st (i + 1)) (hf : flit (l ++ [0]) i w = some (e, T)) : CAt q l st e :=
 ⟨h.v.lit hT h0 h1 hl hb hc hv hf, (h.run h0 h1 hc h93).trans (run_lit hl hT h0 (by rw [len1] at h1; omega) hs hf)⟩
theorem VAt.num (h : VAt q l st i) (hT : Txt (l ++ [0])) (h0 : 0 ≤ i) (h1 : i < ((l ++ [(0 : Int)]).length : Int) - 1) (hc : rd (l ++ [0]) i = 45 ∨ isDig (rd (l ++ [0]) i)) (hf : fnum (l ++ [0]) i = some (e, T)) : CAt q l st e := by
 have h2 := h1
 rw [len1] at h2
 exact ⟨h.v.num hT h0 h1 hc hf, (h.run h0 h1 (by unfold isBlank; unfold isDig at hc; omega) (by unfold isDig at hc; omega)).trans (run_num hT h0 (by omega) (by rw [← rdL h0 (by omega)]; exact hc) hf)⟩
theorem VAt.open_ (h : VAt q l st i) (hT : Txt (l ++ [0])) (h0 : 0 ≤ i) (h1 : i < ((l ++ [(0 : Int)]).length : Int) - 1) (hc : rd (l ++ [0]) i = 123) : Run q l .val [] 0 .name0 (.obj :: st) (i + 1) :=
 (h.run h0 h1 (by rw [hc]; decide) (by rw [hc]; decide)).trans (runL h0 (by rw [len1] at h1; omega) (by rw [hc]; rfl))
theorem VAt.openA (h : VAt q l st i) (hT : Txt (l ++ [0])) (h0 : 0 ≤ i) (h1 : i < ((l ++ [(0 : Int)]).length : Int) - 1) (hc : rd (l ++ [0]) i = 91) : Run q l .val [] 0 .item0 (.arr :: st) (i + 1) :=
 (h.run h0 h1 (by rw [hc]; decide) (by rw [hc]; decide)).trans (runL h0 (by rw [len1] at h1; omega) (by rw [hc]; rfl))
theorem VAt.obj0 (h : VAt q l st i) (hT : Txt (l ++ [0])) (h0 : 0 ≤ i) (h1 : i + 1 < ((l ++ [(0 : Int)]).length : Int) - 1) (hc : rd (l ++ [0]) i = 123) (hd : rd (l ++ [0]) (i + 1) = 125) : CAt q l st (i + 2) := by
 refine ⟨h.v.obj0 hT h0 h1 hc hd, ?_⟩
 have s1 : Run q l .name0 (.obj :: st) (i + 1) (closed st).1 (closed st).2 (i + 1 + 1) := runL (by omega) (by rw [len1] at h1; omega) (by rw [hd]; rfl)
 have := (h.open_ hT h0 (by omega) hc).trans s1
 rw [show i + 1 + 1 = i + 2 by omega] at this
 exact this
theorem VAt.arr0 (h : VAt q l st i) (hT : Txt (l ++ [0])) (h0 : 0 ≤ i) (h1 : i + 1 < ((l ++ [(0 : Int)]).length : Int) - 1) (hc : rd (l ++ [0]) i = 91) (hd : rd (l ++ [0]) (i + 1) = 93) : CAt q l st (i + 2) := by
 refine ⟨h.v.arr0 hT h0 h1 hc hd, ?_⟩
 have s1 : Run q l .item0 (.arr :: st) (i + 1) (closed st).1 (closed st).2 (i + 1 + 1) := runL (by omega) (by rw [len1] at h1; omega) (by rw [hd]; rfl)
 have := (h.openA hT h0 (by omega) hc).trans s1
 rw [show i + 1 + 1 = i + 2 by omega] at this
 exact this
theorem VAt.arr (h : VAt q l st i) (hT : Txt (l ++ [0])) (h0 : 0 ≤ i) (h1 : i < ((l ++ [(0 : Int)]).length : Int) - 1) (hc : rd (l ++ [0]) i = 91) (hd : rd (l ++ [0]) (i + 1) ≠ 93) : VAt q l (.arr :: st) (i + 1) :=
 ⟨h.v.arr hT h0 h1 hc hd, .inr (h.openA hT h0 h1 hc)⟩
theorem VAt.name (h : VAt q l st i) (hT : Txt (l ++ [0])) (h0 : 0 ≤ i) (h1 : i < l.length) (hc : rd l i = 123) (hn : rd (l ++ [0]) (i + 1) ≠ 125) : NAt q l st (i + 1) :=
 ⟨h.v.name hT h0 h1 hc hn, .inr (h.open_ hT h0 (by rw [len1]; omega) (by rw [rdL h0 h1]; exact hc))⟩
theorem CAt.name (h : CAt q l (.obj :: st) i) (hT : Txt (l ++ [0])) (h0 : 0 ≤ i) (h1 : i < l.length) (hc : rd l i = 44) : NAt q l st (i + 1) :=
 ⟨h.c.name hT h0 h1 hc, .inl (h.r.trans (run_step h0 h1 (by rw [hc]; rfl)))⟩
theorem NAt.val (h : NAt q l st i) (hT : Txt (l ++ [0])) (h0 : 0 ≤ i) (h1 : i < l.length) (hq : rd l i = 34) (hf : fstr (l ++ [0]) false i = some (e, T)) (he : e < l.length) (hd : rd l e = 58) : VAt q l (.obj :: st) (e + 1) := by
 have hq2 : rd (l ++ [0]) i = 34 := by rw [rdL h0 h1]; exact hq
 have hok := fstr_ok (q := q) hT h0 (by rw [len1]; omega) hf
 have hd2 : rd (l ++ [0]) e = 58 := by rw [rdL (by omega) he]; exact hd
 have s1 : Run q l .val [] 0 .text (.key :: st) (i + 1) := by
  rcases h.r with h2 | h2
  ·exact h2.trans (run_step h0 h1 (by rw [hq]; rfl))
  ·exact h2.trans (run_step h0 h1 (by rw [hq]; rfl))
 have s2 := run_text (q := q) (st := .key :: st) hT h0 (by rw [len1]; omega) hf
 have s3 : Run q l .colon (.obj :: st) e .val (.obj :: st) (e + 1) := run_step (by omega) he (by rw [hd]; rfl)
 refine ⟨⟨.inl ?_, h.n.2.trans ((even_text hT h0 (by rw [len1]; omega) hq2 hf).trans (even_one hT (by omega) (by rw [len1]; omega) hd2 (by decide)))⟩, .inl ((s1.trans s2).trans s3)⟩
 rw [h.n.text hT h0 h1 hq, hok.2.2 (.key :: st), cont_cons]
 exact (air_go (q := q) (ph := .colon) (st := .obj :: st) (ph' := .val) (st' := .obj :: st) hT rfl (by omega) (by rw [len1]; omega) hd2 (by decide) rfl rfl).1
theorem CAt.item (h : CAt q l (.arr :: st) i) (hT : Txt (l ++ [0])) (h0 : 0 ≤ i) (h1 : i < ((l ++ [(0 : Int)]).length : Int) - 1) (hc : rd (l ++ [0]) i = 44) : VAt q l (.arr :: st) (i + 1) :=
 ⟨h.c.item hT h0 h1 hc, .inl (h.r.trans (runL h0 (by rw [len1] at h1; omega) (by rw [hc]; rfl)))⟩
theorem CAt.shutO (h : CAt q l (.obj :: st) i) (hT : Txt (l ++ [0])) (h0 : 0 ≤ i) (h1 : i < ((l ++ [(0 : Int)]).length : Int) - 1) (hc : rd (l ++ [0]) i = 125) : CAt q l st (i + 1) :=
 ⟨h.c.shutO hT h0 h1 hc, h.r.trans (runL h0 (by rw [len1] at h1; omega) (by rw [hc]; rfl))⟩
theorem CAt.shutA (h : CAt q l (.arr :: st) i) (hT : Txt (l ++ [0])) (h0 : 0 ≤ i) (h1 : i < ((l ++ [(0 : Int)]).length : Int) - 1) (hc : rd (l ++ [0]) i = 93) : CAt q l st (i + 1) :=
 ⟨h.c.shutA hT h0 h1 hc, h.r.trans (runL h0 (by rw [len1] at h1; omega) (by rw [hc]; rfl))⟩
/-- A bracket more than 64. -/
theorem VAt.deep (h : VAt q l st i) (h0 : 0 ≤ i) (h1 : i < l.length) (hc : rd l i = 123 ∨ rd l i = 91) (hs : st.length = 64) : ¬ dp q l .val [] 0 ≤ 64 := by
 have hr := h.run h0 (by rw [len1]; omega) (by rw [rdL h0 h1]; unfold isBlank; omega) (by rw [rdL h0 h1]; omega)
 obtain ⟨m, hm⟩ := hr 0
 rw [show (0 : Int).toNat = 0 from rfl, List.drop_zero] at hm
 rcases hc with hc | hc
 ·have h2 := dp_step (q := q) (ph := .val) (st := st) (ph' := .name0) (st' := .obj :: st) h0 h1 (by rw [hc]; rfl) m
  have h3 := dp_mono q (l.drop (i + 1).toNat) .name0 (.obj :: st) (max m (((Br.obj :: st).length : Nat) : Int))
  rw [hm, h2]
  simp only [List.length_cons] at h3 ⊢
  omega
 ·have h2 := dp_step (q := q) (ph := .val) (st := st) (ph' := .item0) (st' := .arr :: st) h0 h1 (by rw [hc]; rfl) m
  have h3 := dp_mono q (l.drop (i + 1).toNat) .item0 (.arr :: st) (max m (((Br.arr :: st).length : Nat) : Int))
  rw [hm, h2]
  simp only [List.length_cons] at h3 ⊢
  omega
end
end Go.Proofs.YtbikiibpjdiaaaaDoor.Err
