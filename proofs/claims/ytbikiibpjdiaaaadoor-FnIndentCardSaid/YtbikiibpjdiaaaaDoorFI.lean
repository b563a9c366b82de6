/- What the reference writes indented, and that the pass writes it. -/
import Derived.Test.YtbikiibpjdiaaaaDoorFG
import Derived.Test.YtbikiibpjdiaaaaDoorSB
import Derived.Lib.MinMax
namespace Go.Proofs.YtbikiibpjdiaaaaDoor.Err
open Go.RowKit Go.Proofs.YtbikiibpjdiaaaaDoorW.PrintWords Go.Proofs.YtbikiibpjdiaaaaDoorW.PrintLast Go.Proofs.YtbikiibpjdiaaaaDoorW.PrintMore
open Go.Proofs.YtbikiibpjdiaaaaDoor.Dig
set_option linter.unusedVariables false
/-- A closing bracket. -/
def shut (c : Int) : Prop := c = 125 ∨ c = 93
instance (c : Int) : Decidable (shut c) := by unfold shut; exact inferInstance
/-- What is written ahead of a byte, and how deep it lies. -/
def pre (p i : List Int) (c : Int) (fresh : Bool) (d : Int) : List Int × Int :=
 if fresh = true ∧ ¬ shut c then (nl (some (p, i)) (d + 1).toNat, d + 1) else if shut c ∧ fresh = false then (nl (some (p, i)) (d - 1).toNat, d - 1) else ([], d)
/-- What is written behind a byte. -/
def post (p i : List Int) (c : Int) (d : Int) : List Int := if c = 44 then nl (some (p, i)) d.toNat else if c = 58 then [32] else []
/-- Whether a bracket was opened. -/
def opn_ (c : Int) : Bool := decide (c = 123 ∨ c = 91)
/-- What the reference writes from a place on, up to an end. -/
def iw (q : ByteArray → ByteArray) (L : List Int) (esc : Bool) (p i : List Int) (E : Int) : Nat → Int → Bool → Int → List Int
 | 0, _, _, _ => []
 | n + 1, x, f, d =>
  if x < E then
   if isBlank (rd L x) then iw q L esc p i E n (x + 1) f d
   else (pre p i (rd L x) f d).1 ++ (if rd L x = 34 then ew L esc (te q L x) L.length x ++ iw q L esc p i E n (te q L x) false (pre p i (rd L x) f d).2
    else rd L x :: (post p i (rd L x) (pre p i (rd L x) f d).2 ++ iw q L esc p i E n (x + 1) (opn_ (rd L x)) (pre p i (rd L x) f d).2))
  else []
section
variable {q : ByteArray → ByteArray} {L l : List Int} {x e d y E : Int} {esc : Bool} {ind : Ind} {st : List Br} {p i : List Int} {f : Bool}
theorem iw_fuel (hT : Txt L) (hE : E ≤ (L.length : Int) - 1) : ∀ (n m : Nat) (x : Int) (f : Bool) (d : Int), 0 ≤ x → E - x ≤ n → E - x ≤ m → iw q L esc p i E n x f d = iw q L esc p i E m x f d := by
 intro n
 induction n with
 | zero =>
  intro m x f d h0 hn hm
  cases m with
  | zero => rfl
  | succ m => unfold iw; rw [if_neg (by omega)]
 | succ n ih =>
  intro m x f d h0 hn hm
  cases m with
  | zero => unfold iw; rw [if_neg (by omega)]
  | succ m =>
   unfold iw
   by_cases h : x < E
   ·rw [if_pos h, if_pos h]
    by_cases h1 : isBlank (rd L x)
    ·rw [if_pos h1, if_pos h1, ih m (x + 1) f d (by omega) (by omega) (by omega)]
    ·rw [if_neg h1, if_neg h1]
     by_cases h2 : rd L x = 34
     ·have hb := te_bound (q := q) hT h0 (by omega) h2
      rw [if_pos h2, if_pos h2, ih m (te q L x) _ _ (by omega) (by omega) (by omega)]
     ·rw [if_neg h2, if_neg h2, ih m (x + 1) _ _ (by omega) (by omega) (by omega)]
   ·rw [if_neg h, if_neg h]
theorem iw_at (hT : Txt L) (hE : E ≤ (L.length : Int) - 1) (h0 : 0 ≤ x) : iw q L esc p i E L.length x f d =
  if x < E then
   if isBlank (rd L x) then iw q L esc p i E L.length (x + 1) f d
   else (pre p i (rd L x) f d).1 ++ (if rd L x = 34 then ew L esc (te q L x) L.length x ++ iw q L esc p i E L.length (te q L x) false (pre p i (rd L x) f d).2
    else rd L x :: (post p i (rd L x) (pre p i (rd L x) f d).2 ++ iw q L esc p i E L.length (x + 1) (opn_ (rd L x)) (pre p i (rd L x) f d).2))
  else [] := by
 rw [iw_fuel hT hE L.length (L.length + 1) x f d h0 (by omega) (by omega)]
 rfl
theorem iw_end (hT : Txt L) (hE : E ≤ (L.length : Int) - 1) (h0 : 0 ≤ x) (h : E ≤ x) : iw q L esc p i E L.length x f d = [] := by
 rw [iw_at hT hE h0, if_neg (by omega)]
theorem iw_skip (hT : Txt L) (hE : E ≤ (L.length : Int) - 1) : ∀ (n : Nat) (x y : Int), 0 ≤ x → RunTo isBlank L x y → y - x = n → iw q L esc p i E L.length x f d = iw q L esc p i E L.length y f d := by
 intro n
 induction n with
 | zero => intro x y h0 hr hn; rw [show y = x by omega]
 | succ n ih =>
  intro x y h0 hr hn
  have hb := hr.all x (Int.le_refl _) (by omega)
  have hlt := hr.lt
  by_cases hx : x < E
  ·rw [iw_at hT hE h0, if_pos hx, if_pos hb]
   exact ih (x + 1) y (by omega) (hr.from hb) (by omega)
  ·rw [iw_end hT hE h0 (by omega), iw_end hT hE (by omega) (by omega)]
theorem iw_skp (hT : Txt L) (hE : E ≤ (L.length : Int) - 1) (h0 : 0 ≤ x) (h1 : x < L.length) : iw q L esc p i E L.length x f d = iw q L esc p i E L.length (skp L x) f d :=
 iw_skip hT hE (skp L x - x).toNat x _ h0 (skp_run hT h0 h1) (by have := (skp_ge hT h0 h1).1; omega)
/-- The end of what is no white space behind the value. -/
def EndAt (L : List Int) (E : Int) : Prop := E ≤ (L.length : Int) - 1 ∧ ∀ k, E ≤ k → k < (L.length : Int) - 1 → isBlank (rd L k)
theorem EndAt.in_ (hE : EndAt L E) (h1 : x < (L.length : Int) - 1) (hb : ¬ isBlank (rd L x)) : x < E := by
 rcases Int.lt_or_le x E with h | h
 ·exact h
 ·exact absurd (hE.2 x h h1) hb
/-- A byte that is none of those that turn anything. -/
theorem iw_one (hT : Txt L) (hE : EndAt L E) (h0 : 0 ≤ x) (h1 : x < L.length) {c : Int} (hc : rd L x = c) (hz : c ≠ 0) (hq : c ≠ 34) (hb : ¬ isBlank c) :
  iw q L esc p i E L.length x f d = (pre p i c f d).1 ++ c :: (post p i c (pre p i c f d).2 ++ iw q L esc p i E L.length (x + 1) (opn_ c) (pre p i c f d).2) := by
 have hin := hT.inside h0 h1 (by omega)
 have := hE.in_ (by omega) (by rw [hc]; exact hb)
 rw [iw_at hT hE.1 h0, if_pos this, hc, if_neg hb, if_neg hq]
theorem iw_plain (hT : Txt L) (hE : EndAt L E) (h0 : 0 ≤ x) (h1 : x < L.length) (hz : rd L x ≠ 0) (hq : rd L x ≠ 34) (hb : ¬ isBlank (rd L x)) (h3 : ¬ shut (rd L x)) (h4 : rd L x ≠ 44) (h5 : rd L x ≠ 58) (h6 : rd L x ≠ 123) (h7 : rd L x ≠ 91) :
  iw q L esc p i E L.length x false d = rd L x :: iw q L esc p i E L.length (x + 1) false d := by
 rw [iw_one hT hE h0 h1 rfl hz hq hb]
 unfold pre post opn_
 rw [if_neg (fun h => absurd h.1 (by decide)), if_neg (fun h => h3 h.1), if_neg h4, if_neg h5, decide_eq_false (by omega)]
 rfl
theorem iw_run (hT : Txt L) (hE : EndAt L E) : ∀ (n : Nat) (x y : Int), 0 ≤ x → x ≤ y → y < L.length → (∀ k, x ≤ k → k < y → rd L k ≠ 0 ∧ rd L k ≠ 34 ∧ ¬ isBlank (rd L k) ∧ ¬ shut (rd L k) ∧ rd L k ≠ 44 ∧ rd L k ≠ 58 ∧ rd L k ≠ 123 ∧ rd L k ≠ 91) → y - x = n → iw q L esc p i E L.length x false d = seg L x y ++ iw q L esc p i E L.length y false d := by
 intro n
 induction n with
 | zero => intro x y h0 hxy hy hall hn; rw [show y = x by omega, seg_nil]; rfl
 | succ n ih =>
  intro x y h0 hxy hy hall hn
  obtain ⟨h1, h2, h3, h4, h5, h6, h7, h8⟩ := hall x (Int.le_refl _) (by omega)
  rw [iw_plain hT hE h0 (by omega) h1 h2 h3 h4 h5 h6 h7 h8, seg_cons x y h0 (by omega) (by omega), ih (x + 1) y (by omega) (by omega) hy (fun k hk hk2 => hall k (by omega) hk2) (by omega)]
  rfl
theorem numC_iw (c : Int) (h : numC c) : c ≠ 0 ∧ c ≠ 34 ∧ ¬ isBlank c ∧ ¬ shut c ∧ c ≠ 44 ∧ c ≠ 58 ∧ c ≠ 123 ∧ c ≠ 91 := by unfold numC isDig at h; unfold isBlank shut; omega
theorem flit_iw {l T : List Int} (hl : Lit_ l) (hb : ∀ c ∈ l, c ≠ 0 ∧ c ≠ 34 ∧ ¬ isBlank c ∧ ¬ shut c ∧ c ≠ 44 ∧ c ≠ 58 ∧ c ≠ 123 ∧ c ≠ 91) (hT : Txt L) (hE : EndAt L E) (h0 : 0 ≤ x) (h1 : x < L.length) (h : flit L x l = some (e, T)) :
  iw q L esc p i E L.length x false d = T ++ iw q L esc p i E L.length e false d ∧ ¬ isBlank (rd L (e - 1)) := by
 have hg := flit_gt hT h0 h1 (by have := hl.len; omega) hl.pos h
 unfold flit at h
 split at h
 ·rename_i hs
  cases h
  have hm : ∀ k, x ≤ k → k < x + (l.length : Int) → rd L k ∈ l := fun k hk hk2 => by
   have := seg_get (L := L) x (x + l.length) (k - x).toNat h0 (by omega) (by omega)
   rw [hs, show x + (((k - x).toNat : Nat) : Int) = k by omega] at this
   exact List.mem_of_getElem? this
  refine ⟨?_, ?_⟩
  ·rw [iw_run hT hE (x + (l.length : Int) - x).toNat x _ h0 (by omega) hg.2 (fun k hk hk2 => hb _ (hm k hk hk2)) (by omega), hs]
  ·exact (hb _ (hm _ (by omega) (by omega))).2.2.1
 ·cases h
theorem iw_text {T : List Int} (hT : Txt L) (hE : EndAt L E) (h0 : 0 ≤ x) (h1 : x < L.length) (hq : rd L x = 34) (h : fstr L esc x = some (e, T)) : iw q L esc p i E L.length x false d = T ++ iw q L esc p i E L.length e false d := by
 have hin := hT.inside h0 h1 (by omega)
 have := hE.in_ (by omega) (by rw [hq]; decide)
 rw [iw_at hT hE.1 h0, if_pos this, hq, if_neg (by decide), if_pos rfl, te_text hT h0 h1 hq h, ← fstr_ew hT h0 h1 hq h]
 rfl
/-- The last byte of a text is its quote. -/
theorem fs_last (hT : Txt L) : ∀ (n : Nat) (x e : Int) (T : List Int), 0 ≤ x → x < L.length → fs L esc n x = some (e, T) → rd L (e - 1) = 34 := by
 intro n
 induction n with
 | zero => intro x e T h0 h1 h; cases h
 | succ n ih =>
  intro x e T h0 h1 h
  unfold fs at h
  split at h
  ·rename_i hc
   cases h
   rw [show x + 1 - 1 = x by omega]; exact hc
  split at h
  ·rename_i hc
   have hin := hT.inside h0 h1 (by omega)
   split at h
   ·cases h
   ·rename_i d hd
    have hg := escF_gt hT (by omega) (by omega) hd
    obtain ⟨⟨e1, T1⟩, hr, he⟩ := Option.map_eq_some_iff.1 h
    simp only [Prod.mk.injEq] at he
    obtain ⟨rfl, rfl⟩ := he
    exact ih d e1 T1 (by omega) hg.2 hr
  split at h
  ·cases h
  ·rename_i c1 c2 c3
   have hin := hT.inside h0 h1 (by omega)
   split at h
   ·obtain ⟨⟨e1, T1⟩, hr, he⟩ := Option.map_eq_some_iff.1 h
    simp only [Prod.mk.injEq] at he
    obtain ⟨rfl, rfl⟩ := he
    exact ih (x + 1) e1 T1 (by omega) (by omega) hr
   split at h
   ·rename_i hl
    obtain ⟨⟨e1, T1⟩, hr, he⟩ := Option.map_eq_some_iff.1 h
    simp only [Prod.mk.injEq] at he
    obtain ⟨rfl, rfl⟩ := he
    exact ih (x + 3) e1 T1 (by omega) (by have := hl.2.2.1; omega) hr
   ·obtain ⟨⟨e1, T1⟩, hr, he⟩ := Option.map_eq_some_iff.1 h
    simp only [Prod.mk.injEq] at he
    obtain ⟨rfl, rfl⟩ := he
    exact ih (x + 1) e1 T1 (by omega) (by omega) hr
theorem fstr_last {T : List Int} (hT : Txt L) (h0 : 0 ≤ x) (h1 : x + 1 < L.length) (h : fstr L esc x = some (e, T)) : ¬ isBlank (rd L (e - 1)) := by
 unfold fstr at h
 obtain ⟨⟨e1, T1⟩, hr, he⟩ := Option.map_eq_some_iff.1 h
 simp only [Prod.mk.injEq] at he
 obtain ⟨rfl, rfl⟩ := he
 rw [fs_last hT _ _ _ _ (by omega) h1 hr]
 decide
/-- What begins a value closes none. -/
theorem fv_start {n : Nat} {d : Nat} {r : Int × List Int} (h : fv L esc ind (n + 1) .val x d = some r) : ¬ isBlank (rd L x) ∧ ¬ shut (rd L x) ∧ rd L x ≠ 0 := by
 unfold fv at h
 unfold isBlank shut isDig at *
 split at h
 ·omega
 split at h
 ·omega
 split at h
 ·omega
 split at h
 ·omega
 split at h
 ·omega
 split at h
 ·omega
 split at h
 ·omega
 ·cases h
theorem pre_fresh {c : Int} (hs : ¬ shut c) (d : Nat) : pre p i c true d = (nl (some (p, i)) (d + 1), ((d + 1 : Nat) : Int)) := by
 unfold pre
 rw [if_pos ⟨rfl, hs⟩, show ((d : Int) + 1).toNat = d + 1 by omega]
 rfl
theorem pre_none {c : Int} (hs : ¬ shut c) : pre p i c false d = ([], d) := by
 unfold pre
 rw [if_neg (fun h => absurd h.1 (by decide)), if_neg (fun h => hs h.1)]
theorem pre_shut {c : Int} (hs : shut c) (d : Nat) (hd : 1 ≤ d) : pre p i c false d = (nl (some (p, i)) (d - 1), ((d - 1 : Nat) : Int)) := by
 unfold pre
 rw [if_neg (fun h => absurd h.1 (by decide)), if_pos ⟨hs, rfl⟩, show ((d : Int) - 1).toNat = d - 1 by omega, show ((d : Int) - 1) = ((d - 1 : Nat) : Int) by omega]
theorem pre_empty {c : Int} (hs : shut c) : pre p i c true d = ([], d) := by
 unfold pre
 rw [if_neg (fun h => h.2 hs), if_neg (fun h => absurd h.2 (by decide))]
/-- The first of an opened bracket. -/
theorem iw_first (hT : Txt L) (hE : EndAt L E) (h0 : 0 ≤ x) (h1 : x < L.length) (hz : rd L x ≠ 0) (hb : ¬ isBlank (rd L x)) (hs : ¬ shut (rd L x)) (d : Nat) :
  iw q L esc p i E L.length x true d = nl (some (p, i)) (d + 1) ++ iw q L esc p i E L.length x false ((d + 1 : Nat) : Int) := by
 have hin := hT.inside h0 h1 hz
 have := hE.in_ (by omega) hb
 rw [iw_at hT hE.1 h0, iw_at hT hE.1 h0, if_pos this, if_pos this, if_neg hb, if_neg hb, pre_fresh hs, pre_none hs]
 rfl
/-- What is written indented of a value. -/
theorem fv_iw (hT : Txt L) (hE : EndAt L E) : ∀ (n : Nat) (md : Md) (x : Int) (d : Nat) (e : Int) (T : List Int), 0 ≤ x → x < L.length → (match md with | .val => True | _ => 1 ≤ d) → fv L esc (some (p, i)) n md x d = some (e, T) →
  (match md with | .val => iw q L esc p i E L.length x false d = T ++ iw q L esc p i E L.length e false d | _ => nl (some (p, i)) d ++ iw q L esc p i E L.length x false d = T ++ iw q L esc p i E L.length e false ((d - 1 : Nat) : Int)) ∧ ¬ isBlank (rd L (e - 1)) := by
 intro n
 induction n with
 | zero => intro md x d e T h0 h1 hd h; cases h
 | succ n ih =>
  intro md x d e T h0 h1 hd h
  cases md with
  | val =>
   unfold fv at h
   split at h
   ·rename_i hc
    have hin := hT.inside h0 h1 (by omega)
    have hk := skp_ge hT (x := x + 1) (by omega) (by omega)
    simp only
    rw [iw_one hT hE h0 h1 hc (by decide) (by decide) (by decide), pre_none (by decide)]
    show (123 :: ([] ++ iw q L esc p i E L.length (x + 1) true d) = _) ∧ _
    rw [iw_skp hT hE.1 (by omega) (by omega)]
    split at h
    ·cases h
    split at h
    ·rename_i _ hc2
     cases h
     rw [iw_one hT hE (by omega) hk.2 hc2 (by decide) (by decide) (by decide), pre_empty (by decide), show skp L (x + 1) + 1 - 1 = skp L (x + 1) by omega, hc2]
     exact ⟨rfl, by decide⟩
    ·obtain ⟨⟨e1, T1⟩, hr, he⟩ := Option.map_eq_some_iff.1 h
     simp only [Prod.mk.injEq] at he
     obtain ⟨rfl, rfl⟩ := he
     obtain ⟨h2, h3⟩ := ih .key _ (d + 1) _ _ (by omega) hk.2 (by simp) hr
     have hq : rd L (skp L (x + 1)) = 34 := by
      cases n with
      | zero => cases hr
      | succ n =>
       unfold fv at hr
       split at hr
       ·rename_i hq; exact hq
       ·cases hr
     rw [iw_first hT hE (by omega) hk.2 (by omega) (by rw [hq]; decide) (by rw [hq]; decide) d, h2]
     exact ⟨rfl, h3⟩
   split at h
   ·rename_i hc
    have hin := hT.inside h0 h1 (by omega)
    have hk := skp_ge hT (x := x + 1) (by omega) (by omega)
    simp only
    rw [iw_one hT hE h0 h1 hc (by decide) (by decide) (by decide), pre_none (by decide)]
    show (91 :: ([] ++ iw q L esc p i E L.length (x + 1) true d) = _) ∧ _
    rw [iw_skp hT hE.1 (by omega) (by omega)]
    split at h
    ·cases h
    split at h
    ·rename_i _ hc2
     cases h
     rw [iw_one hT hE (by omega) hk.2 hc2 (by decide) (by decide) (by decide), pre_empty (by decide), show skp L (x + 1) + 1 - 1 = skp L (x + 1) by omega, hc2]
     exact ⟨rfl, by decide⟩
    ·obtain ⟨⟨e1, T1⟩, hr, he⟩ := Option.map_eq_some_iff.1 h
     simp only [Prod.mk.injEq] at he
     obtain ⟨rfl, rfl⟩ := he
     obtain ⟨h2, h3⟩ := ih .item _ (d + 1) _ _ (by omega) hk.2 (by simp) hr
     have hq : ¬ isBlank (rd L (skp L (x + 1))) ∧ ¬ shut (rd L (skp L (x + 1))) ∧ rd L (skp L (x + 1)) ≠ 0 := by
      cases n with
      | zero => cases hr
      | succ n =>
       unfold fv at hr
       split at hr
       ·cases hr
       ·rename_i hv
        cases n with
        | zero => cases hv
        | succ n => exact fv_start hv
     rw [iw_first hT hE (by omega) hk.2 hq.2.2 hq.1 hq.2.1 d, h2]
     exact ⟨rfl, h3⟩
   split at h
   ·rename_i hc
    have hin := hT.inside h0 h1 (by omega)
    exact ⟨iw_text hT hE h0 h1 hc h, fstr_last hT h0 (by omega) h⟩
   split at h
   ·exact flit_iw lit_true (by decide) hT hE h0 h1 h
   split at h
   ·exact flit_iw lit_false (by decide) hT hE h0 h1 h
   split at h
   ·exact flit_iw lit_null (by decide) hT hE h0 h1 h
   split at h
   ·rename_i hc
    have hn := fnum_ok (q := fun s => s) hT h0 h1 hc h
    have hch := fnum_chars hT h0 h1 hc h
    rw [hn.2.2.1]
    exact ⟨iw_run hT hE (e - x).toNat x e h0 (by omega) hn.2.1 (fun k hk hk2 => numC_iw _ (hch k hk hk2)) (by omega), (numC_iw _ (hch (e - 1) (by omega) (by omega))).2.2.1⟩
   ·cases h
  | key =>
   unfold fv at h
   simp only at hd ⊢
   split at h
   ·rename_i hc
    have hin := hT.inside h0 h1 (by omega)
    split at h
    ·cases h
    rename_i e1 T1 hs1
    have hs := fstr_ok (q := fun s => s) hT h0 (by omega) hs1
    have hk := skp_ge hT (x := e1) (by omega) hs.2.1
    rw [iw_text hT hE h0 h1 hc hs1, iw_skp hT hE.1 (by omega) hs.2.1]
    split at h
    ·rename_i hc2
     have hin2 := hT.inside (x := skp L e1) (by omega) hk.2 (by omega)
     have hk2 := skp_ge hT (x := skp L e1 + 1) (by omega) (by omega)
     rw [iw_one hT hE (by omega) hk.2 hc2 (by decide) (by decide) (by decide), pre_none (by decide)]
     rw [show ([], (d : Int)).1 ++ (58 : Int) :: (post p i 58 ([], (d : Int)).2 ++ iw q L esc p i E L.length (skp L e1 + 1) (opn_ 58) ([], (d : Int)).2) = 58 :: 32 :: iw q L esc p i E L.length (skp L e1 + 1) false d from rfl]
     rw [iw_skp hT hE.1 (by omega) (by omega)]
     split at h
     ·cases h
     rename_i e2 T2 hv2
     have h2 := fv_ok (q := fun s => s) hT _ _ _ _ _ _ (by omega) hk2.2 hv2
     have hk3 := skp_ge hT (x := e2) (by omega) h2.2.1
     rw [(ih .val _ d _ _ (by omega) hk2.2 trivial hv2).1, iw_skp hT hE.1 (by omega) h2.2.1]
     split at h
     ·rename_i hc3
      obtain ⟨⟨e3, T3⟩, hr, he⟩ := Option.map_eq_some_iff.1 h
      simp only [Prod.mk.injEq] at he
      obtain ⟨rfl, rfl⟩ := he
      have hin3 := hT.inside (x := skp L e2) (by omega) hk3.2 (by omega)
      have hk4 := skp_ge hT (x := skp L e2 + 1) (by omega) (by omega)
      obtain ⟨h4, h5⟩ := ih .key _ d _ _ (by omega) hk4.2 hd hr
      simp only at h4
      rw [iw_one hT hE (by omega) hk3.2 hc3 (by decide) (by decide) (by decide), pre_none (by decide)]
      rw [show ([], (d : Int)).1 ++ (44 : Int) :: (post p i 44 ([], (d : Int)).2 ++ iw q L esc p i E L.length (skp L e2 + 1) (opn_ 44) ([], (d : Int)).2) = 44 :: (nl (some (p, i)) d ++ iw q L esc p i E L.length (skp L e2 + 1) false d) from rfl]
      rw [iw_skp hT hE.1 (by omega) (by omega), h4]
      exact ⟨by simp [cb], h5⟩
     split at h
     ·rename_i _ hc3
      cases h
      rw [iw_one hT hE (by omega) hk3.2 hc3 (by decide) (by decide) (by decide), pre_shut (by decide) d hd, show skp L e2 + 1 - 1 = skp L e2 by omega, hc3]
      exact ⟨by simp [cb, post, opn_], by decide⟩
     ·cases h
    ·cases h
   ·cases h
  | item =>
   unfold fv at h
   simp only at hd ⊢
   split at h
   ·cases h
   rename_i e1 T1 hv1
   have h2 := fv_ok (q := fun s => s) hT _ _ _ _ _ _ h0 h1 hv1
   have hk3 := skp_ge hT (x := e1) (by omega) h2.2.1
   rw [(ih .val _ d _ _ h0 h1 trivial hv1).1, iw_skp hT hE.1 (by omega) h2.2.1]
   split at h
   ·rename_i hc3
    obtain ⟨⟨e3, T3⟩, hr, he⟩ := Option.map_eq_some_iff.1 h
    simp only [Prod.mk.injEq] at he
    obtain ⟨rfl, rfl⟩ := he
    have hin3 := hT.inside (x := skp L e1) (by omega) hk3.2 (by omega)
    have hk4 := skp_ge hT (x := skp L e1 + 1) (by omega) (by omega)
    obtain ⟨h4, h5⟩ := ih .item _ d _ _ (by omega) hk4.2 hd hr
    simp only at h4
    rw [iw_one hT hE (by omega) hk3.2 hc3 (by decide) (by decide) (by decide), pre_none (by decide)]
    rw [show ([], (d : Int)).1 ++ (44 : Int) :: (post p i 44 ([], (d : Int)).2 ++ iw q L esc p i E L.length (skp L e1 + 1) (opn_ 44) ([], (d : Int)).2) = 44 :: (nl (some (p, i)) d ++ iw q L esc p i E L.length (skp L e1 + 1) false d) from rfl]
    rw [iw_skp hT hE.1 (by omega) (by omega), h4]
    exact ⟨by simp, h5⟩
   split at h
   ·rename_i _ hc3
    cases h
    rw [iw_one hT hE (by omega) hk3.2 hc3 (by decide) (by decide) (by decide), pre_shut (by decide) d hd, show skp L e1 + 1 - 1 = skp L e1 by omega, hc3]
    exact ⟨by simp [post, opn_], by decide⟩
   ·cases h
/-- What the pass writes indented is what the reference writes up to the value's end, which is the end of what is no white space. -/
theorem fj_iw {T : List Int} (hT : Txt L) (hE : EndAt L E) (hE2 : E = 0 ∨ 0 < E ∧ ¬ isBlank (rd L (E - 1))) (h : fj L esc (some (p, i)) = some (e, T)) : iw q L esc p i E L.length 0 false 0 = T ∧ E = e := by
 have hpos := hT.pos
 have hk := skp_ge hT (x := 0) (by omega) (by omega)
 unfold fj at h
 split at h
 ·cases h
 rename_i e1 T1 hv
 have h2 := fv_ok (q := fun s => s) hT _ _ _ _ _ _ (by omega) hk.2 hv
 obtain ⟨h3, h4⟩ := fv_iw (q := q) hT hE _ .val _ 0 _ _ (by omega) hk.2 trivial hv
 split at h
 ·rename_i hend
  cases h
  have hr := skp_run hT (x := e) (by omega) h2.2.1
  have hle : E ≤ e := by
   rcases hE2 with h5 | ⟨h5, h6⟩
   ·omega
   ·rcases Int.lt_or_le e E with h7 | h7
    ·exact absurd (hr.all (E - 1) (by omega) (by have := hE.1; omega)) h6
    ·exact h7
  have hge : e ≤ E := by
   rcases Int.lt_or_le E e with h7 | h7
   ·have hin : e - 1 < (L.length : Int) - 1 := by omega
    exact absurd (hE.2 (e - 1) (by omega) hin) h4
   ·exact h7
  refine ⟨?_, by omega⟩
  rw [iw_skp hT hE.1 (by omega) (by omega)]
  simp only at h3
  rw [show ((0 : Nat) : Int) = 0 from rfl] at h3
  rw [h3, iw_end hT hE.1 (by omega) (by omega), List.append_nil]
 ·cases h
end
end Go.Proofs.YtbikiibpjdiaaaaDoor.Err
/- The reference's indenter: a new line. -/
namespace Go.Proofs.YtbikiibpjdiaaaaDoor.Err
open Go.RowKit Go.Proofs.YtbikiibpjdiaaaaDoorW.PrintWords Go.Proofs.YtbikiibpjdiaaaaDoorW.PrintLast Go.Proofs.YtbikiibpjdiaaaaDoorW.PrintMore
open Go.Proofs.YtbikiibpjdiaaaaDoor.Dig Go.Proofs.YtbikiibpjdiaaaaDoor.Tab Go.Proofs.YtbikiibpjdiaaaaDoor.QF Go.Proofs.YtbikiibpjdiaaaaDoor.QM
set_option linter.unusedVariables false
/-- The indenter in memory. -/
abbrev IW (w : World) (g : Nat) (esc : Bool) (p i : ByteArray) (d : Int) (v : Value) (xs : List Int) : Prop := WR w g 62 [.string p, .string i, .int .i64 d] esc v xs
section
variable {q : ByteArray → ByteArray} {w w' w0 : World} {g : Nat} {t : TypeId} {tail : List Value} {esc : Bool} {v v1 : Value} {xs ys l L : List Int} {x e d : Int} {A : Option Addr} {c : Nat} {p i : ByteArray}
theorem WR.blk_grew (h : WR w g t tail esc v xs) (hg : Grew w v w' v1) : w'.heap[g]? = some (.cells (v :: .bool esc :: tail).toArray t (0, 0)) := by
 rw [hg.1.block g h.lt (fun e => ?_)]
 ·exact h.blk
 ·have := (h.own.lt g e.symm).1
  omega
theorem ind_cells (h : w.heap[g]? = some (.cells (v :: .bool esc :: [.string p, .string i, .int .i64 d]).toArray t (0, 0))) : w.cell? ⟨g, 0, none⟩ = some v ∧ w.cell? ⟨g, 2, none⟩ = some (.string p) ∧ w.cell? ⟨g, 3, none⟩ = some (.string i) ∧ w.cell? ⟨g, 4, none⟩ = some (.int .i64 d) ∧ w.frozen? ⟨g, 0, none⟩ = false ∧ w.frozen? ⟨g, 4, none⟩ = false := by
 refine ⟨?_, ?_, ?_, ?_, ?_, ?_⟩ <;> simp [World.cell?, World.frozen?, h]
theorem WR.out_below (h : WR w g t tail esc v xs) (hb : Below w0.heap.size w0 w) (hg : w0.heap.size ≤ g) (hw : Grew w v w' v1) (u : Value) : Below w0.heap.size w0 (w'.setCell ⟨g, 0, none⟩ u) :=
 (pw_below_grown hb _ hb.size hw.1 (fun k hk => by have := (h.own.lt k hk).1; omega)).setCell hg _
set_option maxRecDepth 100000 in
set_option maxHeartbeats 16000000 in
theorem line (h : IW w g esc p i d v xs) (hx : xs.length ≤ 1000000000000) (hd0 : -20000 ≤ d) (hd1 : d ≤ 20000) (hp : p.size ≤ 8) (hi : i.size ≤ 8) (hb : Below w0.heap.size w0 w) (hg : w0.heap.size ≤ g) :
  Calls Tryd.prog 37 #[.pointer (some ⟨g, 0, none⟩)] w fun e w' => (e = .returned (.tuple #[]) ∧ ∃ v', IW w' g esc p i d v' (xs ++ nl (some (sb p, sb i)) d.toNat)) ∧ Below w0.heap.size w0 w' := by
 obtain ⟨hc0, hc2, hc3, hc4, hf0, hf4⟩ := ind_cells h.blk
 obtain ⟨hc0a, hc2a, z3, z4, hf0a, z6⟩ := ind_cells (h.below (below_alloc (Below.refl _ _) (.cells #[.int .u8 10] 5))).blk
 have HW := Aside0.mk h
 have HB := Aside0.mk hb
 have HX := Aside0.mk hx
 have HD := Aside0.mk (And.intro hd0 hd1)
 have HP := Aside0.mk (And.intro hp hi)
 have HGN : Aside0 (∀ v' w', Grew w v w' v' → w'.cell? ⟨g, 0, none⟩ = some v ∧ w'.cell? ⟨g, 2, none⟩ = some (.string p) ∧ w'.cell? ⟨g, 3, none⟩ = some (.string i) ∧ w'.cell? ⟨g, 4, none⟩ = some (.int .i64 d) ∧ w'.frozen? ⟨g, 0, none⟩ = false ∧ w'.frozen? ⟨g, 4, none⟩ = false) := ⟨fun v' w' hg => ind_cells (HW.out.blk_grew hg)⟩
 clear h hb hx hd0 hd1 hp hi hc3 hc4 hf4 z3 z4 z6
 go_enter Tryd.func37, Tryd.ntmps37
 go_wp2_with fail
 go_region_law (first | ((apply step_app (v := v) (x := .slice (some ⟨w.heap.size, 0, none⟩) 1 1) (xs := xs) (ys := [10]) (N := g + 1)); (case hg => rfl); (case ho => rfl); (case hs => rfl); (case hx => rfl); (case hown => first | exact HW.out.own.move (below_alloc (Below.refl _ _) _).drew | exact HW.out.own.move (below_alloc (Below.refl _ _).drew _)); (case hsrc => (refine src_new (b := w.heap.size) ?_ rfl; exact ⟨_, blk_new w _, rfl⟩)); (case hb => (have := HX.out; simp; omega)); (case hN => (have := HW.out.lt; simp; omega)); (intro v1 w1 ho1 hg1; have HO1 := Aside0.mk ho1; have HG1 := Aside0.mk (((Grew.refl w v).alloc _).drew.trans hg1); obtain ⟨a0, a2, a3, a4, a5, a6⟩ := HGN.out _ _ HG1.out; clear ho1 hg1)) | ((apply step_app (v := v1) (x := .string p) (xs := xs ++ [10]) (ys := sb p) (tx := 9) (N := g + 1)); (case hg => rfl); (case ho => rfl); (case hs => rfl); (case hx => rfl); (case hown => exact HO1.out); (case hsrc => exact src_str p); (case hb => (have := HX.out; have := HP.out; rw [sb_len]; simp; omega)); (case hN => (have := HW.out.lt; have := HG1.out.size; omega)); (intro v2 w2 ho2 hg2; have HO2 := Aside0.mk ho2; have HG2 := Aside0.mk (HG1.out.trans hg2); obtain ⟨b0, b2, b3, b4, b5, b6⟩ := HGN.out _ _ HG2.out; obtain ⟨A2, n2, c2, rfl⟩ := own_is ho2; clear ho2 hg2 a0 a2 a3 a4 a5 a6)))
 all_goals
  have HW2 := Aside0.mk (HW.out.put HO2.out HG2.out)
  have HB2 := Aside0.mk (HW.out.out_below HB.out hg HG2.out (.slice A2 n2 c2))
  obtain ⟨d0, d2, d3, d4, d5, d6⟩ := ind_cells HW2.out.blk
  clear hc0 hc0a hc2 hc2a hf0 hf0a b0 b2 b3 b4 b5 b6 d0 d2 d3 d5 d6
  go_wp2_with fail
  go_loopg [22] (d.toNat + 1) (fun kq v22 w' => ∃ (k : Nat) (u : Value), v22 = .int .i64 k ∧ Aside0 (k ≤ d.toNat ∧ d.toNat + 1 ≤ k + kq) ∧ Aside0 (IW w' g esc p i d u (xs ++ nl (some (sb p, sb i)) k)) ∧ Aside0 (Below w0.heap.size w0 w'))
  case atStart => exact ⟨0, _, rfl, ⟨by omega, by omega⟩, ⟨by have := HW2.out; simpa [nl] using this⟩, HB2⟩
  case round =>
   obtain ⟨k, u, rfl, HK, HWk, HBk⟩ := hrel
   obtain ⟨k1, k2⟩ := HK.out
   obtain _ | g0 := gk
   ·exfalso; omega
   obtain ⟨e0, e2, e3, e4, e5, e6⟩ := ind_cells HWk.out.blk
   have ek : wrap64 ((k : Int) + 1) = ((k + 1 : Nat) : Int) := by have := HD.out; unfold wrap64; omega
   by_cases hkd : (k : Int) < d
   ·have b1 : decide ((k : Int) < d) = true := decide_eq_true hkd
    have HN : Aside0 ((xs ++ nl (some (sb p, sb i)) k).length + (sb i).length ≤ 70368744177664) := ⟨by
     rw [List.length_append, nl_len, sb_len, sb_len]
     have := HX.out; have := HP.out; have := HD.out
     have : k * i.size ≤ 20000 * 8 := Nat.mul_le_mul (by omega) (by omega)
     omega⟩
    have HGK : Aside0 (∀ v' w', Grew wr u w' v' → w'.cell? ⟨g, 0, none⟩ = some u ∧ w'.frozen? ⟨g, 0, none⟩ = false) := ⟨fun v' w' hg => HWk.out.grew hg⟩
    have HK2 := Aside0.mk (And.intro k1 k2)
    clear HK k2 e2 e4 e6
    go_wp2_with fail
    go_region_law ((apply step_app (v := u) (x := .string i) (xs := xs ++ nl (some (sb p, sb i)) k) (ys := sb i) (tx := 9) (N := g + 1)); (case hg => rfl); (case ho => rfl); (case hs => rfl); (case hx => rfl); (case hown => first | exact HWk.out.own | exact HWk.out.own.move (Below.refl _ _).drew); (case hsrc => exact src_str i); (case hb => exact HN.out); (case hN => (have := HWk.out.lt; first | omega | (simp; omega))); (intro v3 w3 ho3 hg3; have HO3 := Aside0.mk ho3; have HG3 := Aside0.mk ((Grew.refl wr u).drew.trans hg3); obtain ⟨p1, p2⟩ := HGK.out _ _ HG3.out; obtain ⟨A3, n3, c3, rfl⟩ := own_is ho3; clear ho3 hg3))
    all_goals
     go_wp2_with fail
     go_roundg g0
     case measure => omega
     case rel => exact ⟨k + 1, _, by first | rfl | rw [ek], ⟨by have := HD.out; omega, by have := HD.out; have := HK2.out; omega⟩, ⟨by rw [nl_some, ← List.append_assoc]; exact HWk.out.put HO3.out HG3.out⟩, ⟨HWk.out.out_below HBk.out hg HG3.out _⟩⟩
   ·have b1 : decide ((k : Int) < d) = false := decide_eq_false hkd
    have hkk : k = d.toNat := by omega
    have HKK := Aside0.mk hkk
    clear HK k1 k2 hkk
    go_wp2_with fail
    go_end0
    rw [← HKK.out]
    exact ⟨⟨rfl, u, HWk.out⟩, HBk.out⟩
end
end Go.Proofs.YtbikiibpjdiaaaaDoor.Err
/- Indenting: appendIndent, Indent, and the thin package's door. -/
namespace Go.Proofs.YtbikiibpjdiaaaaDoor.Err
open Go.RowKit Go.Proofs.YtbikiibpjdiaaaaDoorW.PrintWords Go.Proofs.YtbikiibpjdiaaaaDoorW.PrintLast Go.Proofs.YtbikiibpjdiaaaaDoorW.PrintMore
open Go.Proofs.YtbikiibpjdiaaaaDoor.Dig Go.Proofs.YtbikiibpjdiaaaaDoor.Tab Go.Proofs.YtbikiibpjdiaaaaDoor.QF Go.Proofs.YtbikiibpjdiaaaaDoor.QM
set_option linter.unusedVariables false
section
variable {N : Nat} {w w' w0 : World} {v u : Value} {A A0 A1 : Option Addr} {c c0 c1 : Nat} {xs l T : List Int} {esc tr : Bool} {p i : ByteArray} {e : Int} {ind : Ind}
/-- What is written of a value, with the white space behind it if so asked. -/
def ti (l : List Int) (esc tr : Bool) (p i : ByteArray) : Option (List Int) := (fj (l ++ [0]) esc (some (sb p, sb i))).map fun r => r.2 ++ if tr = true then seg (l ++ [0]) r.1 l.length else []
theorem seg_drop (h0 : 0 ≤ e) (h1 : e ≤ l.length) : seg (l ++ [0]) e l.length = l.drop e.toNat := by
 unfold seg
 rw [Int.toNat_natCast, List.take_left']
 rfl
theorem fj_end (hT : Txt (l ++ [0])) (h : fj (l ++ [0]) esc ind = some (e, T)) : 0 < e ∧ e ≤ l.length := by
 have hlen : ((l ++ [(0 : Int)]).length : Int) = l.length + 1 := by rw [List.length_append]; rfl
 have hpos := hT.pos
 have hk := skp_ge hT (x := 0) (by omega) (by omega)
 unfold fj at h
 split at h
 ·cases h
 rename_i e1 T1 hv
 have hok := fv_ok (q := fun s => s) hT _ _ _ _ _ _ (by omega) hk.2 hv
 split at h
 ·cases h
  omega
 ·cases h
theorem C_grown {row : Option Nat} (h : Kd.C (Kd.int .u8) w A l.length l) (hg : w.grownBy w' row) (hne : ∀ a : Addr, A = some a → some a.block ≠ row) : Kd.C (Kd.int .u8) w' A l.length l := by
 refine Kd.C_of_reads (enc := Value.int .u8) (d := (0 : Int)) (h1 := fun _ => rfl) ?_
 have h2 := Kd.reads_of_C (enc := Value.int .u8) (d := (0 : Int)) (h1 := fun _ => rfl) h
 refine ⟨h2.1, h2.2.1, fun hn => ?_⟩
 obtain ⟨ad, e, hc⟩ := h2.2.2 hn
 exact ⟨ad, e, fun j hj => hg.cell (hc j hj) (by rw [add_block]; exact hne ad e)⟩
/-- Bytes behind nothing. -/
theorem src_zero {w : World} (A : Option Addr) (k : Nat) : Src Tryd.prog 1 22 (.slice A 0 k) ([] : List Int).length (nums .u8 []) w := by
 cases A with
 | none => exact src_none k
 | some a => exact src_slice (a := a) (m := 0) (c := k) (ys := []) rfl (fun j z hz => by simp [nums] at hz)
set_option maxRecDepth 100000 in
set_option maxHeartbeats 16000000 in
theorem appendIndent (h : Dr N w v xs A c l) (hfar : ∀ a : Addr, A = some a → some a.block ≠ v.ownBlock) (hp : p.size ≤ 8) (hi : i.size ≤ 8) : Calls Tryd.prog 49 #[v, .slice A l.length c, .string p, .string i, .bool esc, .bool tr] w (DoorAns N w v xs (ti l esc tr p i)) := by
 have HD := Aside0.mk h
 obtain ⟨r, hr⟩ : ∃ r, r = fj (l ++ [0]) esc (some (sb p, sb i)) := ⟨_, rfl⟩
 have HRR := Aside0.mk hr
 have HTI : Aside0 (ti l esc tr p i = r.map fun r => r.2 ++ if tr = true then seg (l ++ [0]) r.1 l.length else []) := ⟨by rw [hr]; rfl⟩
 have HP := Aside0.mk (And.intro hp hi)
 have HT := Aside0.mk (txt_of h.byt h.len)
 have HFAR := Aside0.mk hfar
 clear h hr hp hi hfar
 go_enter Tryd.func49, Tryd.ntmps49
 go_wp2_with (first | ((with_reducible refine gate_builtin (b := .append) (xs := #[.tmp 18, .tmp 19]) rfl ?_); at_builtin; refine wpList_app (N := w.heap.size) rfl (.tmp 18) (.tmp 19) 22 rfl (.slice (some ⟨w.heap.size, 0, none⟩) 0 0) _ [] l rfl rfl ?aO ?aS ?aB ?aN ?_; (case aO => exact World.ownsRow_made w #[] 0 (Nat.le_refl _) (Nat.zero_le _) rfl); (case aS => exact src_C (Kd.C_below HD.out.src (below_alloc (Below.refl _ _) _))); (case aB => have := HD.out.len; simp; omega); (case aN => simp); intro v1 w1 ho hg; have HO1 := Aside0.mk ho; have HG1 := Aside0.mk hg; clear ho hg) | ((with_reducible refine gate_builtin (b := .append) (xs := #[.tmp 20, .tmp 21]) rfl ?_); at_builtin; refine wpList_app (N := w.heap.size) rfl (.tmp 20) (.tmp 21) 22 rfl v1 _ ([] ++ l) [0] rfl rfl (HO1.out.move (below_alloc (Below.refl _ _) _)) ?aS ?aB ?aN ?_; (case aS => (refine src_new (b := w1.heap.size) ?_ rfl; exact ⟨_, blk_new w1 _, rfl⟩)); (case aB => have := HD.out.len; simp; omega); (case aN => have := HG1.out.size; simp at this ⊢; omega); intro v2 w2 ho hg; have HO2 := Aside0.mk ho; have HG2 := Aside0.mk (((Grew.refl w1 v1).alloc _).trans hg); clear ho hg))
 have HB2 := Aside0.mk (input_below HG1.out HG2.out)
 have HB3 := Aside0.mk (below_alloc HB2.out (.cells #[.string p, .string i] 80))
 have HO3 : Aside0 (Own w.heap.size (w2.alloc (.cells #[.string p, .string i] 80)) v2 (l ++ [0])) := ⟨by have := HO2.out.move (below_alloc (Below.refl _ _) (.cells #[.string p, .string i] 80)); simpa using this⟩
 obtain ⟨ad, cc, rfl, hctx⟩ := ctx_of HD.out HB3.out HO3.out (ip := .pointer (some ⟨w2.heap.size, 0, none⟩)) (ind := some (sb p, sb i)) (.inr ⟨w2.heap.size, p, i, rfl, rfl, blk_new w2 _, (fun e => by have h1 := (HD.out.own.lt _ e).2; have := HB2.out.size; omega), HP.out.1, HP.out.2⟩)
 have HJ := Aside0.mk (formatJSON (esc := esc) hctx (HD.out.own.move HB3.out) (room_of HD.out.xln HD.out.len))
 rw [← HRR.out] at HJ
 clear hctx
 go_wp2_with fail
 with_reducible refine HJ.out.mono ?_
 rintro e w3 hans
 rcases r with _ | ⟨e1, T⟩
 ·obtain ⟨v3, u3, rfl, hg⟩ := hans
  have HG := Aside0.mk ((Grew.below HB3.out).trans hg)
  clear hg
  go_wp2_with fail
  with_reducible refine (formatErr _ _ _ _).mono ?_
  rintro e w4 ⟨⟨g, rfl⟩, hb4⟩
  have HB4 := Aside0.mk hb4
  clear hb4
  go_wp2_with fail
  refine bodyPost_ret (v := .tuple #[v, .iface 95 (.pointer (some ⟨g, 0, none⟩))]) ?_ rfl ?_
  ·simp [results, Tryd.results49, go_sem]
  rw [HTI.out]
  exact ⟨v, u3, g, rfl, HG.out.trans (Grew.below HB4.out)⟩
 ·obtain ⟨v3, rfl, ho3, hg⟩ := hans
  have HO3 := Aside0.mk ho3
  have HG := Aside0.mk ((Grew.below HB3.out).trans hg)
  have hend := fj_end HT.out HRR.out.symm
  have hTl := fj_len HT.out (ind := some (sb p, sb i)) (fun p' i' h => by cases h; have := HP.out; rw [sb_len, sb_len]; exact this) HRR.out.symm
  have HTL : Aside0 (T.length + 1000000 ≤ 1000000000000) := ⟨by have := HD.out.len; rw [List.length_append, List.length_singleton] at hTl; omega⟩
  clear hg ho3 hTl
  cases tr with
  | false =>
   clear hend
   go_wp2_with fail
   refine bodyPost_ret (v := .tuple #[v3, .nilIface]) ?_ rfl ?_
   ·simp [results, Tryd.results49, go_sem]
   rw [HTI.out]
   exact ⟨v3, rfl, by have := HO3.out; simpa using this, HG.out⟩
  | true =>
   obtain ⟨e0, e2⟩ := hend
   have hcap := HD.out.cap
   have HSEG := Aside0.mk (seg_drop (l := l) (e := e1) (by omega) e2)
   have HDL : Aside0 ((l.drop e1.toNat).length = l.length - e1.toNat) := ⟨List.length_drop⟩
   have HDB : Aside0 ((xs ++ T).length + (l.drop e1.toNat).length ≤ 70368744177664) := ⟨by have := HTL.out; have := HD.out.len; have := HD.out.xln; rw [List.length_append, List.length_drop]; omega⟩
   have g0 : (0 ≤ e1) = True := eq_true (by omega)
   have g2 : (e1 ≤ (l.length : Int)) = True := eq_true e2
   have hsrc0 : Kd.C (Kd.int .u8) w3 A l.length l := C_grown HD.out.src HG.out.1 HFAR.out
   have hR := Kd.reads_of_C (enc := Value.int .u8) (d := (0 : Int)) (h1 := fun _ => rfl) hsrc0
   obtain ⟨ad0, rfl, _⟩ := hR.2.2 (by omega)
   by_cases g3 : e1.toNat < c
   ·have hRd := ReadsOf.drop_ (c := c) hR e1.toNat (by omega) hcap
    rw [if_neg (by omega)] at hRd
    have HSRC : Aside0 (Src Tryd.prog 1 22 (.slice (some (ad0.add e1.toNat)) (l.length - e1.toNat) (c - e1.toNat)) (l.drop e1.toNat).length (nums .u8 (l.drop e1.toNat)) w3) := ⟨by
     have := src_C (w := w3) (l := l.drop e1.toNat) (A := some (ad0.add e1.toNat)) (k := c - e1.toNat) (by rw [List.length_drop]; exact Kd.C_of_reads (h1 := fun _ => rfl) hRd)
     rw [List.length_drop] at this ⊢
     exact this⟩
    clear hR hRd hsrc0 e0 e2 hcap
    go_wp2_with (first | ((with_reducible refine gate_builtin (b := .append) (xs := #[.tmp 41, .tmp 44]) rfl ?_); at_builtin; refine wpList_app (N := N) rfl (.tmp 41) (.tmp 44) 22 rfl v3 _ (xs ++ T) (l.drop e1.toNat) rfl rfl HO3.out HSRC.out HDB.out ?aN ?_; (case aN => have := HD.out.size; have := HG.out.size; omega); intro v4 w4 ho hg; have HO4 := Aside0.mk ho; have HG4 := Aside0.mk (HG.out.trans hg); clear ho hg))
    refine bodyPost_ret (v := .tuple #[v4, .nilIface]) ?_ rfl ?_
    ·simp [results, Tryd.results49, go_sem]
    rw [HTI.out]
    exact ⟨v4, rfl, by have := HO4.out; rw [← HSEG.out] at this; simpa using this, HG4.out⟩
   ·obtain rfl : c = l.length := by omega
    obtain rfl : e1 = (l.length : Int) := by omega
    have HSG : Aside0 (seg (l ++ [0]) (l.length : Int) l.length = []) := ⟨by rw [HSEG.out, Int.toNat_natCast, List.drop_length]⟩
    clear hR hsrc0 e0 e2 hcap g3
    go_wp2_with (first | ((with_reducible refine gate_builtin (b := .append) (xs := #[.tmp 41, .tmp 44]) rfl ?_); at_builtin; refine wpList_app (N := N) rfl (.tmp 41) (.tmp 44) 22 rfl v3 _ (xs ++ T) [] rfl rfl HO3.out (src_zero _ _) ?aB ?aN ?_; (case aB => have := HDB.out; simp only [List.length_nil]; omega); (case aN => have := HD.out.size; have := HG.out.size; omega); intro v4 w4 ho hg; have HO4 := Aside0.mk ho; have HG4 := Aside0.mk (HG.out.trans hg); clear ho hg))
    refine bodyPost_ret (v := .tuple #[v4, .nilIface]) ?_ rfl ?_
    ·simp [results, Tryd.results49, go_sem]
    rw [HTI.out]
    exact ⟨v4, rfl, by have := HO4.out; show Own N _ v4 (xs ++ (T ++ _)); rw [if_pos trivial]; show Own N _ v4 (xs ++ (T ++ seg (l ++ [0]) (l.length : Int) l.length)); rw [HSG.out]; simpa using this, HG4.out⟩
set_option maxRecDepth 100000 in
set_option maxHeartbeats 16000000 in
theorem indentDoor (h : Dr N w v xs A c l) (hfar : ∀ a : Addr, A = some a → some a.block ≠ v.ownBlock) (hp : p.size ≤ 8) (hi : i.size ≤ 8) : Calls Tryd.prog 36 #[v, .slice A l.length c, .string p, .string i, .bool esc, .bool tr] w (DoorAns N w v xs (ti l esc tr p i)) := by
 have HA := Aside0.mk (appendIndent (esc := esc) (tr := tr) h hfar hp hi)
 clear h hfar hp hi
 obtain ⟨r, hr⟩ : ∃ r, r = ti l esc tr p i := ⟨_, rfl⟩
 rw [← hr] at HA ⊢
 clear hr
 go_enter Tryd.func36, Tryd.ntmps36
 go_wp2_with fail
 with_reducible refine HA.out.mono ?_
 rintro e w1 hans
 obtain ⟨v1, y, rfl, h2⟩ := doorBack hans
 have H2 := Aside0.mk h2
 clear h2 hans
 go_wp2_with fail
 refine bodyPost_ret (v := .tuple #[v1, y]) ?_ rfl ?_
 ·simp [results, Tryd.results36, go_sem]
 exact H2.out
set_option maxRecDepth 100000 in
set_option maxHeartbeats 16000000 in
theorem implIndent (h : Ins w A0 c0 xs A1 c1 l) (hp : p.size ≤ 8) (hi : i.size ≤ 8) : Calls Tryd.prog 23 #[.slice A0 xs.length c0, .slice A1 l.length c1, .string p, .string i, .bool esc, .bool tr] w (ImplAns w xs (ti l esc tr p i)) := by
 have HI := Aside0.mk h
 have HP := Aside0.mk (And.intro hp hi)
 have HCP := Aside0.mk (ownCopy h.s0 h.k0 h.n0)
 clear h hp hi
 obtain ⟨r, hr⟩ : ∃ r, r = ti l esc tr p i := ⟨_, rfl⟩
 have HRR := Aside0.mk hr
 rw [← hr]
 clear hr
 go_enter Tryd.func23, Tryd.ntmps23
 go_wp2_with fail
 with_reducible refine HCP.out.mono ?_
 rintro e w1 ⟨⟨v1, rfl, ho1⟩, hb1⟩
 have HO1 := Aside0.mk ho1
 have HB1 := Aside0.mk hb1
 clear ho1 hb1
 have HCP2 := Aside0.mk (ownCopy (Kd.C_below HI.out.s1 HB1.out) HI.out.k1 HI.out.n1)
 go_wp2_with fail
 with_reducible refine HCP2.out.mono ?_
 rintro e w2 ⟨⟨v2, rfl, ho2⟩, hb2⟩
 have hlow : ∀ b, v2.ownBlock = some b → v1.ownBlock ≠ some b := fun b h1 h2 => by
  have h3 := (ho2.lt b h1).1
  have h4 := (HO1.out.lt b h2).2
  omega
 obtain ⟨A, c, rfl, hc2, hs2⟩ := own_slice ho2
 have hob : ∀ a : Addr, A = some a → some a.block ≠ v1.ownBlock := by
  rintro a rfl e
  rcases ho2.2 with ⟨h1, h2⟩ | ⟨g, cap, cur, h1, _⟩
  ·cases h1
  ·cases h1
   exact hlow g rfl e.symm
 have HD := Aside0.mk (dr_of HI.out HO1.out HB1.out hb2 hs2 hc2)
 have HB2 := Aside0.mk hb2
 have HA := Aside0.mk (indentDoor (esc := esc) (tr := tr) HD.out hob HP.out.1 HP.out.2)
 rw [← HRR.out] at HA
 clear ho2 hb2 hs2 hc2 hlow hob
 go_wp2_with fail
 with_reducible refine HA.out.mono ?_
 rintro e w3 hans
 rcases r with _ | T
 ·obtain ⟨v3, u3, g, rfl, hg⟩ := hans
  have HBB := Aside0.mk (out_below (HO1.out.move HB2.out) (below_step HB1.out HB2.out) hg)
  clear hg
  go_wp2_with fail
  go_region
  go_wp2_with fail
  refine bodyPost_ret (v := .tuple #[v3, .bool false]) ?_ rfl ?_
  ·simp [results, Tryd.results23, go_sem]
  exact ⟨v3, rfl, HBB.out.drew⟩
 ·obtain ⟨v3, rfl, ho3, hg⟩ := hans
  have HBB := Aside0.mk (out_below (HO1.out.move HB2.out) (below_step HB1.out HB2.out) hg)
  obtain ⟨A3, c3, rfl, hc3, hs3⟩ := own_slice ho3
  have HS3 := Aside0.mk hs3
  have HC3 := Aside0.mk hc3
  clear hg ho3 hs3 hc3
  go_wp2_with fail
  go_region
  go_wp2_with fail
  refine bodyPost_ret (v := .tuple #[.slice A3 (xs ++ T).length c3, .bool true]) ?_ rfl ?_
  ·simp [results, Tryd.results23, go_sem]
  exact ⟨A3, c3, rfl, HC3.out, Kd.C_below HS3.out (Below.refl _ _).drew, HBB.out.drew⟩
end
end Go.Proofs.YtbikiibpjdiaaaaDoor.Err
/- The reference's Indented. -/
namespace Go.Proofs.YtbikiibpjdiaaaaDoor.Err
open Go.RowKit Go.Proofs.YtbikiibpjdiaaaaDoorW.PrintWords Go.Proofs.YtbikiibpjdiaaaaDoorW.PrintLast Go.Proofs.YtbikiibpjdiaaaaDoorW.PrintMore
open Go.Proofs.YtbikiibpjdiaaaaDoor.Dig Go.Proofs.YtbikiibpjdiaaaaDoor.Tab Go.Proofs.YtbikiibpjdiaaaaDoor.QF Go.Proofs.YtbikiibpjdiaaaaDoor.QM
set_option linter.unusedVariables false
set_option linter.unusedSimpArgs false
section
variable {q : ByteArray → ByteArray} {w w' w0 : World} {g : Nat} {esc tr : Bool} {v v1 : Value} {xs ys l L X : List Int} {x e d E : Int} {A : Option Addr} {c : Nat} {p i : ByteArray}
theorem IW.deep (h : IW w g esc p i d v xs) (d2 : Int) : IW (w.setCell ⟨g, 4, none⟩ (.int .i64 d2)) g esc p i d2 v xs :=
 ⟨by have := heap_setCell_same w g 4 _ 62 (.int .i64 d2) h.blk; simpa using this, own_setb h.own 4 _⟩
theorem nl_short (hp : p.size ≤ 8) (hi : i.size ≤ 8) (n : Nat) (hn : n ≤ 10001) : (nl (some (sb p, sb i)) n).length ≤ 80100 := by
 rw [nl_len, sb_len, sb_len]
 have : n * i.size ≤ 10001 * 8 := Nat.mul_le_mul hn hi
 omega
theorem pre_bools (p i : List Int) (ch : Int) (f : Bool) (d : Int) : pre p i ch f d = if f = true ∧ decide (shut ch) = false then (nl (some (p, i)) (d + 1).toNat, d + 1) else if decide (shut ch) = true ∧ f = false then (nl (some (p, i)) (d - 1).toNat, d - 1) else ([], d) := by
 unfold pre
 by_cases h : shut ch <;> cases f <;> simp [h]
theorem shut_b (ch : Int) : decide (shut ch) = ((ch == 125) || (ch == 93)) := by
 unfold shut
 by_cases h : ch = 125 <;> by_cases h2 : ch = 93 <;> simp [h, h2]
theorem opn_b (ch : Int) : opn_ ch = ((ch == 123) || (ch == 91)) := by
 unfold opn_
 by_cases h : ch = 123 <;> by_cases h2 : ch = 91 <;> simp [h, h2]
/-- What Indented answers. -/
def IndAns (q : ByteArray → ByteArray) (l : List Int) (esc tr : Bool) (p i : ByteArray) (e : Ending) (w' : World) : Prop :=
 ∃ (E : Int) (R : List Int) (B : Option Addr) (k : Nat), EndAt (l ++ [0]) E ∧ 0 ≤ E ∧ (E = 0 ∨ 0 < E ∧ ¬ isBlank (rd (l ++ [0]) (E - 1))) ∧ R = iw q (l ++ [0]) esc (sb p) (sb i) E (l ++ [0]).length 0 false 0 ++ (if tr = true then seg (l ++ [0]) E l.length else []) ∧
  e = .returned (.slice B R.length k) ∧ R.length ≤ k ∧ Kd.C (Kd.int .u8) w' B R.length R
set_option maxRecDepth 100000 in
set_option maxHeartbeats 32000000 in
theorem indented (hG : G q w) (hC : Kd.C (Kd.int .u8) w A l.length l) (hcap : l.length ≤ c) (hby : ∀ y, y ∈ l → 0 ≤ y ∧ y < 256) (hl : l.length ≤ 10000) (hp : p.size ≤ 8) (hi8 : i.size ≤ 8) :
  Calls Tryd.prog 24 #[.slice A l.length c, .string p, .string i, .bool esc, .bool tr] w fun e w' => IndAns q l esc tr p i e w' ∧ Below w.heap.size w w' := by
 have hlen : ((l ++ [(0 : Int)]).length : Int) = l.length + 1 := by rw [List.length_append]; rfl
 have HT := Aside0.mk (txt_of hby (by omega))
 have HTXT : Aside0 (∀ (W : World) (u : Value) (X : List Int) (d j : Int), Below w.heap.size w W → IW W w.heap.size esc p i d u X → X.length ≤ 1000000000000 → 0 ≤ j → j < l.length → rd l j = 34 → Calls Tryd.prog 28 #[.pointer (some ⟨w.heap.size, 0, none⟩), .slice A l.length c, .int .i64 j] W fun e w' => (e = .returned (.int .i64 (te q (l ++ [0]) j)) ∧ ∃ v', IW w' w.heap.size esc p i d v' (X ++ ew (l ++ [0]) esc (te q (l ++ [0]) j) (l ++ [0]).length j)) ∧ Below w.heap.size w w') :=
  ⟨fun W u X d j h2 h4 h5 h6 h7 h8 => writeText hG hC hcap hby hl h2 (Nat.le_refl _) h4 h5 h6 h7 h8⟩
 have HLINE : Aside0 (∀ (W : World) (u : Value) (X : List Int) (d : Int), Below w.heap.size w W → IW W w.heap.size esc p i d u X → X.length ≤ 1000000000000 → -20000 ≤ d → d ≤ 20000 → Calls Tryd.prog 37 #[.pointer (some ⟨w.heap.size, 0, none⟩)] W fun e w' => (e = .returned (.tuple #[]) ∧ ∃ v', IW w' w.heap.size esc p i d v' (X ++ nl (some (sb p, sb i)) d.toNat)) ∧ Below w.heap.size w w') :=
  ⟨fun W u X d h2 h4 h5 h6 h7 => line h4 h5 h6 h7 hp hi8 h2 (Nat.le_refl _)⟩
 have HNL : Aside0 (∀ n : Nat, n ≤ 10001 → (nl (some (sb p, sb i)) n).length ≤ 80100) := ⟨nl_short hp hi8⟩
 have HC := Aside0.mk hC
 have HLEN := Aside0.mk hlen
 have HCAP := Aside0.mk (And.intro hcap hl)
 clear hG hC hby hlen hp hi8
 go_enter Tryd.func24, Tryd.ntmps24
 go_upto_block 0 with (fail)
 go_cut [12] from 25 to 36 (fun v12 wx => ∃ E : Int, v12 = .int .i64 E ∧ Aside0 (0 ≤ E ∧ E ≤ (l.length : Int)) ∧ Aside0 ((∀ k : Int, E ≤ k → k < (l.length : Int) → isBlank (rd l k)) ∧ (E = 0 ∨ 0 < E ∧ ¬ isBlank (rd l (E - 1)))) ∧ Aside0 (IW wx w.heap.size esc p i 0 (.slice none 0 0) []) ∧ Aside0 (Below w.heap.size w wx))
 case first =>
  go_wp2_with fail
  go_loopg [12] (l.length + 1) (fun kq v12 w' => ∃ E : Int, v12 = .int .i64 E ∧ Aside0 (0 ≤ E ∧ E ≤ (l.length : Int) ∧ E + 1 ≤ kq) ∧ Aside0 (∀ k : Int, E ≤ k → k < (l.length : Int) → isBlank (rd l k)) ∧ Aside0 (IW w' w.heap.size esc p i 0 (.slice none 0 0) []) ∧ Aside0 (Below w.heap.size w w'))
  case atStart => exact ⟨l.length, rfl, ⟨by omega, by omega, by omega⟩, ⟨fun k h1 h2 => by omega⟩, ⟨⟨blk_new w _, World.ownsRow_nil _ _ _ _⟩⟩, ⟨below_alloc (Below.refl _ _) _⟩⟩
  case round =>
   obtain ⟨E, rfl, HE, HBL, HW, HB⟩ := hrel
   obtain ⟨e0, e1, e2⟩ := HE.out
   obtain _ | g0 := gk
   ·exfalso; omega
   have ee : wrap64 (E - 1) = E - 1 := by unfold wrap64; omega
   by_cases hE0 : 0 < E
   ·have b1 : decide (0 < E) = true := decide_eq_true hE0
    obtain ⟨ad, hA, hxi⟩ := Kd.at_int (Kd.C_below HC.out HB.out) (E - 1) (by omega) (by omega)
    rw [show (E - 1).toNat = E.toNat - 1 by omega] at hxi
    subst hA
    have h00 : 0 ≤ E - 1 := by omega
    have h01 : E - 1 < (l.length : Int) := by omega
    by_cases hbk : isBlank (rd l (E - 1))
    ·have HS : Aside0 (∀ W, Calls Tryd.prog 29 #[.int .u8 (rd l (E - 1))] W fun e w' => e = .returned (.bool true) ∧ Drawn0 W w') := ⟨fun W => by have := sBlank (rd l (E - 1)) W; rw [decide_eq_true hbk] at this; exact this⟩
     have HBK := Aside0.mk hbk
     clear hbk e0 e1
     go_wp2_with fail
     with_reducible refine (HS.out _).mono ?_
     rintro e w2 ⟨rfl, ⟨m2, rfl⟩⟩
     go_wp2_with fail
     go_roundg g0
     case measure => omega
     case rel => exact ⟨E - 1, by first | rfl | rw [ee], ⟨by omega, by have := HE.out; omega, by have := HE.out; omega⟩, ⟨fun k h1 h2 => by
      by_cases hk : k = E - 1
      ·rw [hk]; exact HBK.out
      ·exact HBL.out k (by omega) h2⟩, ⟨HW.out.below (pw_below_drewN (Below.refl _ _) m2)⟩, ⟨pw_below_drewN HB.out m2⟩⟩
    ·have HS : Aside0 (∀ W, Calls Tryd.prog 29 #[.int .u8 (rd l (E - 1))] W fun e w' => e = .returned (.bool false) ∧ Drawn0 W w') := ⟨fun W => by have := sBlank (rd l (E - 1)) W; rw [decide_eq_false hbk] at this; exact this⟩
     have HBK := Aside0.mk hbk
     clear hbk e0 e1
     go_wp2_with fail
     with_reducible refine (HS.out _).mono ?_
     rintro e w2 ⟨rfl, ⟨m2, rfl⟩⟩
     go_wp2_with fail
     go_meet
     case rel => exact ⟨E, rfl, ⟨by have := HE.out; omega, by have := HE.out; omega⟩, ⟨HBL.out, .inr ⟨hE0, HBK.out⟩⟩, ⟨HW.out.below (pw_below_drewN (Below.refl _ _) m2)⟩, ⟨pw_below_drewN HB.out m2⟩⟩
   ·have b1 : decide (0 < E) = false := decide_eq_false hE0
    go_wp2_with fail
    go_meet
    case rel => exact ⟨E, rfl, ⟨by have := HE.out; omega, by have := HE.out; omega⟩, ⟨HBL.out, .inl (by omega)⟩, HW, HB⟩
 case rest =>
  obtain ⟨E, rfl, HE, HBL, HW0, HB0⟩ := hcut
  have HEND : Aside0 (EndAt (l ++ [0]) E) := ⟨⟨by have := HE.out; have := HLEN.out; omega, fun k h1 h2 => by
   have := HE.out; have := HLEN.out
   rw [rdL (by omega) (by omega)]
   exact HBL.out.1 k h1 (by omega)⟩⟩
  have HENS : Aside0 (E = 0 ∨ 0 < E ∧ ¬ isBlank (rd (l ++ [0]) (E - 1))) := ⟨by
   rcases HBL.out.2 with h | ⟨h, h2⟩
   ·exact .inl h
   ·exact .inr ⟨h, by rw [rdL (by omega) (by have := HE.out; omega)]; exact h2⟩⟩
  obtain ⟨R, hR⟩ : ∃ R, R = iw q (l ++ [0]) esc (sb p) (sb i) E (l ++ [0]).length 0 false 0 := ⟨_, rfl⟩
  have HR := Aside0.mk hR
  clear HBL hR hcap hl
  go_wp2_with fail
  go_loopg [13, 14] (l.length + 1) (fun kq v13 v14 w' => ∃ (f : Bool) (j d : Int) (X : List Int) (u : Value), v13 = .bool f ∧ v14 = .int .i64 j ∧ Aside0 (0 ≤ j ∧ j ≤ (l.length : Int) ∧ -j ≤ d ∧ d ≤ j ∧ (X.length : Int) ≤ 200000 * j ∧ (l.length : Int) + 1 ≤ j + kq) ∧ Aside0 (R = X ++ iw q (l ++ [0]) esc (sb p) (sb i) E (l ++ [0]).length j f d) ∧ Aside0 (IW w' w.heap.size esc p i d u X) ∧ Aside0 (Below w.heap.size w w'))
  case atStart => exact ⟨false, 0, 0, [], _, rfl, rfl, ⟨by omega, by omega, by omega, by omega, by simp, by omega⟩, ⟨by rw [HR.out]; rfl⟩, HW0, HB0⟩
  case round =>
   obtain ⟨f, j, d, X, u, rfl, rfl, HJ, HX, HW, HB⟩ := hrel
   obtain ⟨j0, j1, d0, d1, x1, k1⟩ := HJ.out
   obtain _ | g0 := gk
   ·exfalso; omega
   have ej : wrap64 (j + 1) = j + 1 := by have := HCAP.out; unfold wrap64; omega
   by_cases hjE : j < E
   ·have b1 : decide (j < E) = true := decide_eq_true hjE
    have hjl : j < l.length := by have := HE.out; omega
    obtain ⟨ad, hA, hxi⟩ := Kd.at_int (Kd.C_below HC.out HB.out) j j0 hjl
    have hiw := iw_at (q := q) (esc := esc) (p := sb p) (i := sb i) (f := f) (d := d) HT.out HEND.out.1 j0
    rw [if_pos hjE, rdL j0 hjl] at hiw
    obtain ⟨ch, hch⟩ : ∃ ch, ch = rd l j := ⟨_, rfl⟩
    rw [← hch] at hiw hxi
    have HCH := Aside0.mk hch
    subst hA
    clear hch
    by_cases hbk : isBlank ch
    ·rw [if_pos hbk] at hiw
     have HIW := Aside0.mk hiw
     have HS : Aside0 (∀ W, Calls Tryd.prog 29 #[.int .u8 ch] W fun e w' => e = .returned (.bool true) ∧ Drawn0 W w') := ⟨fun W => by have := sBlank ch W; rw [decide_eq_true hbk] at this; exact this⟩
     clear hiw hbk j1 d0 d1 x1
     cases h125 : (ch == 125) <;> cases h93 : (ch == 93)
     all_goals
      go_wp2_with fail
      with_reducible refine (HS.out _).mono ?_
      rintro e w2 ⟨rfl, ⟨m2, rfl⟩⟩
      go_wp2_with fail
      go_roundg g0
      case measure => omega
      case rel => exact ⟨f, j + 1, d, X, u, rfl, by rw [ej], ⟨by have := HJ.out; omega, by have := HJ.out; omega, by have := HJ.out; omega, by have := HJ.out; omega, by have := HJ.out; omega, by have := HJ.out; omega⟩, ⟨by rw [← HIW.out]; exact HX.out⟩, ⟨HW.out.below (pw_below_drewN (Below.refl _ _) m2)⟩, ⟨pw_below_drewN HB.out m2⟩⟩
    ·rw [if_neg hbk] at hiw
     have HS : Aside0 (∀ W, Calls Tryd.prog 29 #[.int .u8 ch] W fun e w' => e = .returned (.bool false) ∧ Drawn0 W w') := ⟨fun W => by have := sBlank ch W; rw [decide_eq_false hbk] at this; exact this⟩
     have HJL := Aside0.mk hjl
     obtain ⟨P, hP⟩ : ∃ P, P = pre (sb p) (sb i) ch f d := ⟨_, rfl⟩
     obtain ⟨sh, hsh⟩ : ∃ sh, sh = decide (shut ch) := ⟨_, rfl⟩
     have hPB := pre_bools (sb p) (sb i) ch f d
     have hSB := shut_b ch
     have hOB := opn_b ch
     rw [← hP] at hiw hPB
     rw [← hsh] at hPB hSB
     obtain ⟨op, hop⟩ : ∃ op, op = opn_ ch := ⟨_, rfl⟩
     rw [← hop] at hOB hiw
     have HPB := Aside0.mk hPB
     have HSB := Aside0.mk hSB
     have HOB := Aside0.mk hOB
     have HIW := Aside0.mk hiw
     have ed1 : wrap64 (d + 1) = d + 1 := by have := HCAP.out; unfold wrap64; omega
     have ed2 : wrap64 (d - 1) = d - 1 := by have := HCAP.out; unfold wrap64; omega
     have HPL : Aside0 ((P.1.length : Int) ≤ 80100 ∧ d - 1 ≤ P.2 ∧ P.2 ≤ d + 1) := ⟨by
      have h1 := HNL.out (d + 1).toNat (by have := HCAP.out; omega)
      have h2 := HNL.out (d - 1).toNat (by have := HCAP.out; omega)
      rw [hPB]
      split
      ·exact ⟨by dsimp only; omega, by dsimp only; omega, by dsimp only; omega⟩
      ·split
       ·exact ⟨by dsimp only; omega, by dsimp only; omega, by dsimp only; omega⟩
       ·exact ⟨by show ((([] : List Int).length : Nat) : Int) ≤ 80100; decide, by dsimp only; omega, by dsimp only; omega⟩⟩
     clear hiw hbk j1 d0 d1 x1 hP hsh hPB hSB hOB hop
     go_upto_region 9 with (fail)
     go_cut [16] from 37 to 130 (fun v16 wx => v16 = .bool sh ∧ wx = wr)
     case first =>
      cases h125 : (ch == 125) <;> cases h93 : (ch == 93)
      all_goals
       have hs := HSB.out
       rw [h125, h93] at hs
       simp only [Bool.or_false, Bool.or_true, Bool.true_or, Bool.false_or] at hs
       subst hs
       go_wp2_with fail
       go_meet
       case rel => exact ⟨rfl, rfl⟩
     case rest =>
      obtain ⟨rfl, rfl⟩ := hcut
      go_upto_block 4 with (fail)
      go_cut [14] from 37 to 130 (fun v14 wx => ∃ u2 : Value, v14 = .int .i64 j ∧ Aside0 (IW wx w.heap.size esc p i P.2 u2 (X ++ P.1)) ∧ Aside0 (Below w.heap.size w wx))
      case first =>
       go_wp2_with fail
       with_reducible refine (HS.out _).mono ?_
       rintro e w2 ⟨rfl, hd2⟩
       have HW2 := Aside0.mk (HW.out.below hd2.below)
       have HB2 := Aside0.mk (below_step HB.out hd2.below)
       obtain ⟨z0, z2, z3, hc4, z5, hf4⟩ := ind_cells HW2.out.blk
       clear hd2 z0 z2 z3 z5
       have hx6 := HJ.out
       cases f <;> cases sh
       ·have hp : P = ([], d) := by rw [HPB.out]; simp
        subst hp
        clear hx6
        go_wp2_with fail
        go_meet
        case rel => exact ⟨u, rfl, ⟨by rw [List.append_nil]; exact HW2.out⟩, HB2⟩
       ·have hp : P = (nl (some (sb p, sb i)) (d - 1).toNat, d - 1) := by rw [HPB.out]; simp
        subst hp
        have HL1 := Aside0.mk (HLINE.out (w2.setCell ⟨w.heap.size, 4, none⟩ (.int .i64 (d - 1))) u X (d - 1) (HB2.out.setCell (Nat.le_refl _) _) (IW.deep HW2.out (d - 1)) (by have := HCAP.out; omega) (by have := HCAP.out; omega) (by have := HCAP.out; omega))
        clear hx6
        go_wp2_with fail
        with_reducible refine HL1.out.mono ?_
        rintro e w3 ⟨⟨rfl, u3, hw3⟩, hb3⟩
        have HW3 := Aside0.mk hw3
        have HB3 := Aside0.mk hb3
        clear hw3 hb3
        go_wp2_with fail
        go_meet
        case rel => exact ⟨u3, rfl, HW3, HB3⟩
       ·have hp : P = (nl (some (sb p, sb i)) (d + 1).toNat, d + 1) := by rw [HPB.out]; simp
        subst hp
        have HL1 := Aside0.mk (HLINE.out (w2.setCell ⟨w.heap.size, 4, none⟩ (.int .i64 (d + 1))) u X (d + 1) (HB2.out.setCell (Nat.le_refl _) _) (IW.deep HW2.out (d + 1)) (by have := HCAP.out; omega) (by have := HCAP.out; omega) (by have := HCAP.out; omega))
        clear hx6
        go_wp2_with fail
        with_reducible refine HL1.out.mono ?_
        rintro e w3 ⟨⟨rfl, u3, hw3⟩, hb3⟩
        have HW3 := Aside0.mk hw3
        have HB3 := Aside0.mk hb3
        clear hw3 hb3
        go_wp2_with fail
        go_meet
        case rel => exact ⟨u3, rfl, HW3, HB3⟩
       ·have hp : P = ([], d) := by rw [HPB.out]; simp
        subst hp
        clear hx6
        go_wp2_with fail
        go_meet
        case rel => exact ⟨u, rfl, ⟨by rw [List.append_nil]; exact HW2.out⟩, HB2⟩
      case rest =>
       clear HW HB
       obtain ⟨u, rfl, HW, HB⟩ := hcut
       go_upto_region 18 with (fail)
       go_cut [13] from 37 to 130 (fun v13 wx => v13 = .bool op ∧ wx = wc)
       case first =>
        cases h123 : (ch == 123) <;> cases h91 : (ch == 91)
        all_goals
         have hs := HOB.out
         rw [h123, h91] at hs
         simp only [Bool.or_false, Bool.or_true, Bool.true_or, Bool.false_or] at hs
         subst hs
         go_wp2_with fail
         go_meet
         case rel => exact ⟨rfl, rfl⟩
       case rest =>
        obtain ⟨rfl, rfl⟩ := hcut
        by_cases hq : ch = 34
        ·subst hq
         have hq2 : rd l j = 34 := HCH.out.symm
         have HCALL := Aside0.mk (HTXT.out _ u (X ++ P.1) P.2 j HB.out HW.out (by have h1 := HJ.out; have h2 := HPL.out; have h3 := HCAP.out; rw [List.length_append]; omega) j0 HJL.out hq2)
         have HTB := Aside0.mk (te_bound (q := q) HT.out j0 (by have := HLEN.out; have := HJL.out; omega) (by rw [rdL j0 HJL.out]; exact hq2))
         have hiw2 := HIW.out
         rw [if_pos rfl] at hiw2
         have HIW2 := Aside0.mk hiw2
         have HOP : Aside0 (op = false) := ⟨HOB.out⟩
         obtain rfl := HOP.out
         clear hq2 hiw2
         go_wp2_with fail
         with_reducible refine HCALL.out.mono ?_
         rintro e w2 ⟨⟨rfl, v2, hw2⟩, hb2⟩
         have HW2 := Aside0.mk hw2
         have HB2 := Aside0.mk hb2
         clear hw2 hb2
         go_wp2_with fail
         go_roundg g0
         case measure => omega
         case rel => exact ⟨false, te q (l ++ [0]) j, P.2, X ++ P.1 ++ ew (l ++ [0]) esc (te q (l ++ [0]) j) (l ++ [0]).length j, v2, rfl, rfl, ⟨by have := HTB.out; omega, by have := HTB.out; have := HLEN.out; omega, by have := HTB.out; have := HJ.out; have := HPL.out; omega, by have := HTB.out; have := HJ.out; have := HPL.out; omega, by have h1 := HTB.out; have h2 := HJ.out; have h4 := HPL.out; have h3 := ew_len (L := l ++ [0]) (esc := esc) (e := te q (l ++ [0]) j) (l ++ [0]).length j (by omega); rw [List.length_append, List.length_append]; omega, by have := HTB.out; have := HJ.out; omega⟩, ⟨by rw [List.append_assoc, List.append_assoc, ← HIW2.out]; exact HX.out⟩, HW2, HB2⟩
        ·have f34 : (ch == 34) = false := beq_eq_false_iff_ne.mpr hq
         have hiw2 := HIW.out
         rw [if_neg hq] at hiw2
         obtain ⟨Q, hQ⟩ : ∃ Q, Q = post (sb p) (sb i) ch P.2 := ⟨_, rfl⟩
         rw [← hQ] at hiw2
         have HIW2 := Aside0.mk hiw2
         have HQ := Aside0.mk hQ
         have HPC : Aside0 (-10001 ≤ P.2 ∧ P.2 ≤ 10001) := ⟨by have := HCAP.out; have := HJ.out; have := HPL.out; have := HJL.out; omega⟩
         have HQL : Aside0 ((Q.length : Int) ≤ 80100) := ⟨by
          have h1 := HNL.out P.2.toNat (by have := HPC.out; omega)
          rw [hQ]
          unfold post
          split
          ·omega
          ·split
           ·simp
           ·simp⟩
         have HXL : Aside0 ((X ++ P.1).length + 1000000 ≤ 1000000000000) := ⟨by have h1 := HJ.out; have h2 := HPL.out; have h3 := HCAP.out; have := HJL.out; rw [List.length_append]; omega⟩
         clear hiw2 hQ hq
         go_upto_region 21 with (fail)
         go_cut [14] from 37 to 130 (fun v14 wx => ∃ u2 : Value, v14 = .int .i64 j ∧ Aside0 (IW wx w.heap.size esc p i P.2 u2 (X ++ P.1 ++ [ch])) ∧ Aside0 (Below w.heap.size w wx))
         case first =>
          obtain ⟨hw0, z2, z3, z4, hf0, z6⟩ := ind_cells HW.out.blk
          have hw0a := ((HW.out.below (below_alloc (Below.refl _ _) (.cells #[.int .u8 ch] 5))).cell0)
          have HGN : Aside0 (∀ v' w', Grew wc u w' v' → w'.cell? ⟨w.heap.size, 0, none⟩ = some u ∧ w'.frozen? ⟨w.heap.size, 0, none⟩ = false) := ⟨fun v' w' hg => HW.out.grew hg⟩
          clear z2 z3 z4 z6
          go_wp2_with (first | ((with_reducible refine gate_builtin (b := .append) (xs := #[.tmp 104, .tmp 106]) rfl ?_); at_builtin; refine wpList_app rfl (.tmp 104) (.tmp 106) 22 rfl u _ (X ++ P.1) [ch] rfl rfl (HW.out.own.move (below_alloc (Below.refl _ _) _)) ?aS ?aB ?aN ?_; (case aS => (refine src_new (b := wc.heap.size) ?_ rfl; exact ⟨_, blk_new wc _, rfl⟩)); (case aB => have h2 := HXL.out; simp only [List.length_cons, List.length_nil]; omega); (case aN => have := HW.out.lt; simp; omega); intro v3 w3 ho3 hg3; have HO3 := Aside0.mk ho3; have HG3 := Aside0.mk (((Grew.refl wc u).alloc _).trans hg3); obtain ⟨p1, p2⟩ := HGN.out _ _ HG3.out; obtain ⟨A3, n3, c3, rfl⟩ := own_is ho3; clear ho3 hg3))
          go_meet
          case rel => exact ⟨_, rfl, ⟨HW.out.put HO3.out HG3.out⟩, ⟨HW.out.out_below HB.out (Nat.le_refl _) HG3.out _⟩⟩
         case rest =>
          clear HW HB
          obtain ⟨u, rfl, HW, HB⟩ := hcut
          by_cases h44 : ch = 44
          ·have f44 : (ch == 44) = true := by rw [h44]; rfl
           have hq : Q = nl (some (sb p, sb i)) P.2.toNat := by rw [HQ.out]; unfold post; rw [if_pos h44]
           have HL1 := Aside0.mk (HLINE.out _ u (X ++ P.1 ++ [ch]) P.2 HB.out HW.out (by have h2 := HXL.out; rw [List.length_append, List.length_singleton]; omega) (by have := HPC.out; omega) (by have := HPC.out; omega))
           rw [← hq] at HL1
           clear hq h44
           go_wp2_with fail
           with_reducible refine HL1.out.mono ?_
           rintro e w3 ⟨⟨rfl, u3, hw3⟩, hb3⟩
           have HW3 := Aside0.mk hw3
           have HB3 := Aside0.mk hb3
           clear hw3 hb3
           go_wp2_with fail
           go_roundg g0
           case measure => omega
           case rel => exact ⟨op, j + 1, P.2, X ++ P.1 ++ [ch] ++ Q, u3, rfl, by rw [ej], ⟨by omega, by have := HJL.out; omega, by have := HJ.out; have := HPL.out; omega, by have := HJ.out; have := HPL.out; omega, by have h1 := HJ.out; have h2 := HPL.out; have h3 := HQL.out; simp only [List.length_append, List.length_singleton]; omega, by have := HJ.out; omega⟩, ⟨by rw [HX.out, HIW2.out]; simp only [List.append_assoc, List.cons_append, List.nil_append, List.singleton_append]⟩, HW3, HB3⟩
          ·have f44 : (ch == 44) = false := beq_eq_false_iff_ne.mpr h44
           by_cases h58 : ch = 58
           ·have f58 : (ch == 58) = true := by rw [h58]; rfl
            have hq : Q = [32] := by rw [HQ.out]; unfold post; rw [if_neg h44, if_pos h58]
            subst hq
            obtain ⟨hw0, z2, z3, z4, hf0, z6⟩ := ind_cells HW.out.blk
            have hw0a := ((HW.out.below (below_alloc (Below.refl _ _) (.cells #[.int .u8 32] 5))).cell0)
            have HGN : Aside0 (∀ v' w', Grew wc u w' v' → w'.cell? ⟨w.heap.size, 0, none⟩ = some u ∧ w'.frozen? ⟨w.heap.size, 0, none⟩ = false) := ⟨fun v' w' hg => HW.out.grew hg⟩
            clear z2 z3 z4 z6 h44 h58
            go_wp2_with (first | ((with_reducible refine gate_builtin (b := .append) (xs := #[.tmp 123, .tmp 124]) rfl ?_); at_builtin; refine wpList_app rfl (.tmp 123) (.tmp 124) 22 rfl u _ (X ++ P.1 ++ [ch]) [32] rfl rfl (HW.out.own.move (below_alloc (Below.refl _ _) _)) ?aS ?aB ?aN ?_; (case aS => (refine src_new (b := wc.heap.size) ?_ rfl; exact ⟨_, blk_new wc _, rfl⟩)); (case aB => have h2 := HXL.out; rw [List.length_append (bs := [ch])]; simp only [List.length_cons, List.length_nil]; omega); (case aN => have := HW.out.lt; simp; omega); intro v3 w3 ho3 hg3; have HO3 := Aside0.mk ho3; have HG3 := Aside0.mk (((Grew.refl wc u).alloc _).trans hg3); obtain ⟨p1, p2⟩ := HGN.out _ _ HG3.out; obtain ⟨A3, n3, c3, rfl⟩ := own_is ho3; clear ho3 hg3))
            go_roundg g0
            case measure => omega
            case rel => exact ⟨op, j + 1, P.2, X ++ P.1 ++ [ch] ++ [32], _, rfl, by rw [ej], ⟨by omega, by have := HJL.out; omega, by have := HJ.out; have := HPL.out; omega, by have := HJ.out; have := HPL.out; omega, by have h1 := HJ.out; have h2 := HPL.out; have h3 := HQL.out; simp only [List.length_append, List.length_singleton]; omega, by have := HJ.out; omega⟩, ⟨by rw [HX.out, HIW2.out]; simp only [List.append_assoc, List.cons_append, List.nil_append, List.singleton_append]⟩, ⟨HW.out.put HO3.out HG3.out⟩, ⟨HW.out.out_below HB.out (Nat.le_refl _) HG3.out _⟩⟩
           ·have f58 : (ch == 58) = false := beq_eq_false_iff_ne.mpr h58
            have hq : Q = [] := by rw [HQ.out]; unfold post; rw [if_neg h44, if_neg h58]
            subst hq
            clear h44 h58
            go_wp2_with fail
            go_roundg g0
            case measure => omega
            case rel => exact ⟨op, j + 1, P.2, X ++ P.1 ++ [ch], u, rfl, by rw [ej], ⟨by omega, by have := HJL.out; omega, by have := HJ.out; have := HPL.out; omega, by have := HJ.out; have := HPL.out; omega, by have h1 := HJ.out; have h2 := HPL.out; simp only [List.length_append, List.length_singleton]; omega, by have := HJ.out; omega⟩, ⟨by rw [HX.out, HIW2.out]; simp only [List.append_assoc, List.cons_append, List.nil_append, List.singleton_append]⟩, HW, HB⟩
   ·have b1 : decide (j < E) = false := decide_eq_false hjE
    have hRX : R = X := by have := HX.out; rw [iw_end HT.out HEND.out.1 j0 (by omega), List.append_nil] at this; exact this
    have HRX := Aside0.mk hRX
    obtain ⟨hw0, z2, z3, z4, hf0, z6⟩ := ind_cells HW.out.blk
    have hx6 := HJ.out
    have HXL : Aside0 (X.length + 20000 ≤ 10000000000) := ⟨by have h3 := HCAP.out; omega⟩
    have HRE : Aside0 (R = iw q (l ++ [0]) esc (sb p) (sb i) E (l ++ [0]).length 0 false 0) := HR
    clear z2 z3 z4 z6 hRX hx6 j0 j1 d0 d1 x1 k1 hjE
    cases tr with
    | false =>
     obtain ⟨B, k, hu, hk, hs⟩ := own_slice HW.out.own
     have HSK := Aside0.mk (And.intro hk hs)
     subst hu
     clear hk hs hf0
     go_wp2_with fail
     go_ret
     refine ⟨⟨E, X, B, k, HEND.out, HE.out.1, HENS.out, ?_, rfl, HSK.out.1, HSK.out.2⟩, HB.out⟩
     rw [← HRE.out, HRX.out]; simp
    | true =>
     have hcap2 := HCAP.out.1
     have e0 := HE.out.1
     have e2 := HE.out.2
     have g0 : (0 ≤ E) = True := eq_true e0
     have g2 : (E ≤ (l.length : Int)) = True := eq_true e2
     have HSEG := Aside0.mk (seg_drop (l := l) (e := E) e0 e2)
     have hC1 := Kd.C_below HC.out HB.out
     have HGN : Aside0 (∀ v' w', Grew wr u w' v' → w'.cell? ⟨w.heap.size, 0, none⟩ = some u ∧ w'.frozen? ⟨w.heap.size, 0, none⟩ = false) := ⟨fun v' w' hg => HW.out.grew hg⟩
     have hR := Kd.reads_of_C (enc := Value.int .u8) (d := (0 : Int)) (h1 := fun _ => rfl) hC1
     have HDB : Aside0 (X.length + (l.drop E.toNat).length ≤ 70368744177664) := ⟨by have h1 := HXL.out; have := HCAP.out; rw [List.length_drop]; omega⟩
     cases A with
     | none =>
      have hl0 : l = [] := by
       cases l with
       | nil => rfl
       | cons a r => obtain ⟨_, e, _⟩ := hR.2.2 (by simp); cases e
      subst hl0
      obtain rfl : E = 0 := by have := e2; simp at this; omega
      clear hR hC1 hcap2 e0 e2
      go_wp2_with fail
      go_region_law ((apply step_app (v := u) (x := _) (xs := X) (ys := []) (tx := 22) (N := w.heap.size + 1)); (case hg => rfl); (case ho => rfl); (case hs => rfl); (case hx => rfl); (case hown => first | exact HW.out.own | exact HW.out.own.move (Below.refl _ _).drew); (case hsrc => first | exact src_zero _ _); (case hb => (have := HDB.out; simp only [List.length_nil]; omega)); (case hN => (have := HW.out.lt; first | omega | (simp; omega))); (intro v3 w3 ho3 hg3; have HO3 := Aside0.mk ho3; have HG3 := Aside0.mk ((Grew.refl wr u).drew.trans hg3); obtain ⟨p1, p2⟩ := HGN.out _ _ HG3.out; obtain ⟨A3, n3, c3, rfl⟩ := own_is ho3; clear ho3 hg3))
      all_goals
       have HW3 := Aside0.mk (HW.out.put HO3.out HG3.out)
       have HB3 := Aside0.mk (HW.out.out_below HB.out (Nat.le_refl _) HG3.out (.slice A3 n3 c3))
       have hw3 := HW3.out.cell0
       clear hw0 hf0 p1 p2
       go_wp2_with fail
       go_ret
       obtain ⟨B, k, hu, hk, hs⟩ := own_slice HW3.out.own
       cases hu
       have HSK := Aside0.mk (And.intro hk hs)
       refine ⟨⟨0, X ++ [], _, _, HEND.out, HE.out.1, .inl rfl, ?_, rfl, HSK.out.1, HSK.out.2⟩, HB3.out⟩
       rw [← HRE.out, HRX.out, if_pos rfl]
       rfl
     | some ad =>
      by_cases g3 : E.toNat < c
      ·have hRd := ReadsOf.drop_ (c := c) hR E.toNat (by omega) hcap2
       rw [if_neg (by omega)] at hRd
       have HSRC : Aside0 (∀ W, Below wr.heap.size wr W → Src Tryd.prog 1 22 (.slice (some (ad.add E.toNat)) (l.length - E.toNat) (c - E.toNat)) (l.drop E.toNat).length (nums .u8 (l.drop E.toNat)) W) := ⟨fun W hb => by
        have := src_C (w := W) (l := l.drop E.toNat) (A := some (ad.add E.toNat)) (k := c - E.toNat) (Kd.C_below (by rw [List.length_drop]; exact Kd.C_of_reads (h1 := fun _ => rfl) hRd) hb)
        rw [List.length_drop] at this ⊢
        exact this⟩
       have hne : (c = E.toNat) = False := eq_false (by omega)
       clear hR hRd hC1 hcap2 e0 e2
       go_wp2_with fail
       go_region_law ((apply step_app (v := u) (x := .slice (some (ad.add E.toNat)) (l.length - E.toNat) (c - E.toNat)) (xs := X) (ys := l.drop E.toNat) (tx := 22) (N := w.heap.size + 1)); (case hg => rfl); (case ho => rfl); (case hs => rfl); (case hx => rfl); (case hown => first | exact HW.out.own | exact HW.out.own.move (Below.refl _ _).drew); (case hsrc => first | exact HSRC.out _ (Below.refl _ _) | exact HSRC.out _ (Below.refl _ _).drew); (case hb => exact HDB.out); (case hN => (have := HW.out.lt; first | omega | (simp; omega))); (intro v3 w3 ho3 hg3; have HO3 := Aside0.mk ho3; have HG3 := Aside0.mk ((Grew.refl wr u).drew.trans hg3); obtain ⟨p1, p2⟩ := HGN.out _ _ HG3.out; obtain ⟨A3, n3, c3, rfl⟩ := own_is ho3; clear ho3 hg3))
       all_goals
        have HW3 := Aside0.mk (HW.out.put HO3.out HG3.out)
        have HB3 := Aside0.mk (HW.out.out_below HB.out (Nat.le_refl _) HG3.out (.slice A3 n3 c3))
        have hw3 := HW3.out.cell0
        clear hw0 hf0 p1 p2
        go_wp2_with fail
        go_ret
        obtain ⟨B, k, hu, hk, hs⟩ := own_slice HW3.out.own
        cases hu
        have HSK := Aside0.mk (And.intro hk hs)
        refine ⟨⟨E, X ++ l.drop E.toNat, _, _, HEND.out, HE.out.1, HENS.out, ?_, rfl, HSK.out.1, HSK.out.2⟩, HB3.out⟩
        rw [← HRE.out, HRX.out, if_pos rfl, HSEG.out]
      ·obtain rfl : c = l.length := by omega
       obtain rfl : E = (l.length : Int) := by omega
       clear hR hC1 hcap2 e0 e2 g3
       go_wp2_with fail
       go_region_law ((apply step_app (v := u) (x := _) (xs := X) (ys := []) (tx := 22) (N := w.heap.size + 1)); (case hg => rfl); (case ho => rfl); (case hs => rfl); (case hx => rfl); (case hown => first | exact HW.out.own | exact HW.out.own.move (Below.refl _ _).drew); (case hsrc => first | exact src_zero _ _); (case hb => (have := HDB.out; simp only [List.length_nil]; omega)); (case hN => (have := HW.out.lt; first | omega | (simp; omega))); (intro v3 w3 ho3 hg3; have HO3 := Aside0.mk ho3; have HG3 := Aside0.mk ((Grew.refl wr u).drew.trans hg3); obtain ⟨p1, p2⟩ := HGN.out _ _ HG3.out; obtain ⟨A3, n3, c3, rfl⟩ := own_is ho3; clear ho3 hg3))
       all_goals
        have HW3 := Aside0.mk (HW.out.put HO3.out HG3.out)
        have HB3 := Aside0.mk (HW.out.out_below HB.out (Nat.le_refl _) HG3.out (.slice A3 n3 c3))
        have hw3 := HW3.out.cell0
        clear hw0 hf0 p1 p2
        go_wp2_with fail
        go_ret
        obtain ⟨B, k, hu, hk, hs⟩ := own_slice HW3.out.own
        cases hu
        have HSK := Aside0.mk (And.intro hk hs)
        refine ⟨⟨(l.length : Int), X ++ [], _, _, HEND.out, HE.out.1, HENS.out, ?_, rfl, HSK.out.1, HSK.out.2⟩, HB3.out⟩
        rw [← HRE.out, HRX.out, if_pos rfl, HSEG.out]; rw [Int.toNat_natCast, List.drop_length]
end
end Go.Proofs.YtbikiibpjdiaaaaDoor.Err
/- The reference's Depth: how many brackets are open at most. -/
namespace Go.Proofs.YtbikiibpjdiaaaaDoor.Err
open Go.RowKit Go.Proofs.YtbikiibpjdiaaaaDoorW.PrintWords Go.Proofs.YtbikiibpjdiaaaaDoorW.PrintLast Go.Proofs.YtbikiibpjdiaaaaDoorW.PrintMore
open Go.Proofs.YtbikiibpjdiaaaaDoor.Dig Go.Proofs.YtbikiibpjdiaaaaDoor.Tab Go.Proofs.YtbikiibpjdiaaaaDoor.QL
set_option linter.unusedVariables false
def dp (q : ByteArray → ByteArray) : List Int → Ph → List Br → Int → Int
 | [], _, _, m => m
 | c :: r, ph, st, m => match step q c ph st with
  | .error _ => m
  | .ok s => dp q r s.1 s.2 (max m (s.2.length : Int))
theorem dp_at (q : ByteArray → ByteArray) (l : List Int) (ph : Ph) (st : List Br) (m : Int) (i : Nat) (hi : i < l.length) : dp q (l.drop i) ph st m = match step q (rd l i) ph st with
  | .error _ => m
  | .ok s => dp q (l.drop (i + 1)) s.1 s.2 (max m (s.2.length : Int)) := by
 rw [List.drop_eq_getElem_cons hi]
 have e : rd l i = l[i] := by
  obtain ⟨_, e⟩ := rd_get l i (by omega) (by omega)
  rw [e]
  rfl
 rw [e]
 rfl
theorem dp_end (q : ByteArray → ByteArray) (l : List Int) (ph : Ph) (st : List Br) (m : Int) (i : Nat) (hi : i = l.length) : dp q (l.drop i) ph st m = m := by
 rw [List.drop_eq_nil_of_le (by omega)]
 rfl
section
variable {q : ByteArray → ByteArray} {w0 w : World} {b : Nat} {a d lt : Int} {v : Value} {wd ft : ByteArray} {st : List Br}
set_option maxRecDepth 100000 in
set_option maxHeartbeats 8000000 in
theorem depth (A : Option Addr) (c : Nat) (l : List Int) (w : World) (hG : G q w) (hC : Kd.C (Kd.int .u8) w A l.length l) (hcap : l.length ≤ c) (hb : ∀ y, y ∈ l → 0 ≤ y ∧ y < 256) (hl : l.length ≤ 10000) :
  Calls Tryd.prog 19 #[.slice A l.length c] w fun e w' => e = .returned (.int .i64 (dp q l .val [] 0)) ∧ Below w.heap.size w w' := by
 have HC := Aside0.mk hC
 have HG := Aside0.mk hG
 have HBY := Aside0.mk hb
 clear hC hG hb
 go_enter Tryd.func19, Tryd.ntmps19
 go_wp2_with fail
 go_loopg [4, 11] (l.length + 1) (fun kq v4 v11 w' => ∃ (i : Nat) (ph : Ph) (st : List Br) (m : Int), v4 = .int .i64 m ∧ v11 = .int .i64 i ∧ Aside0 (i ≤ l.length ∧ l.length + 1 ≤ i + kq ∧ WF ph st ∧ st.length ≤ i ∧ dp q l .val [] 0 = dp q (l.drop i) ph st m ∧ SC w' w.heap.size ph st ∧ Below w.heap.size w w'))
 case atStart =>
  refine ⟨0, .val, [], 0, rfl, rfl, by omega, by omega, trivial, by simp, rfl, ?_, ?_⟩
  ·exact ⟨0, none, 0, 0, ByteArray.empty, 0, ByteArray.empty, rfl, sc_new w⟩
  ·exact below_alloc (Below.refl _ _) _
 case round =>
  obtain ⟨i, ph, st, m, rfl, rfl, HA⟩ := hrel
  obtain ⟨hi, hk, hwf, hsl, hff, ⟨a, A2, cc, d, wd, lt, ft, hI, hS⟩, hBB⟩ := HA.out
  clear HA
  by_cases hlt : i < l.length
  ·obtain ⟨ad, rfl, hx⟩ := Kd.at_int (Kd.C_below HC.out hBB) i (by omega) (by omega)
   rw [Int.toNat_natCast] at hx
   have hby := HBY.out (rd l i) (by obtain ⟨hh, e⟩ := rd_get l i (by omega) (by omega); rw [e]; exact List.getElem_mem _)
   have hT := sTake (q := q) ph A2 cc (rd l i) hI hwf HG.out hBB (Nat.le_refl _) hS hby.1 hby.2 (by omega)
   have hffs := dp_at q l ph st m i hlt
   have ei : wrap64 ((i : Int) + 1) = ((i + 1 : Nat) : Int) := by unfold wrap64; omega
   have b1 : decide ((i : Int) < (l.length : Int)) = true := decide_eq_true (by omega)
   cases hst : step q (rd l i) ph st with
   | error msg =>
    rw [hst] at hT hffs
    have HT := Aside0.mk hT
    have HRES : Aside0 (dp q l .val [] 0 = m) := ⟨hff.trans hffs⟩
    have HB := Aside0.mk hBB
    clear hT hffs hst hff hI hS hBB ei hcap hl
    go_wp2_with fail
    with_reducible refine HT.out.mono ?_
    rintro e w1 ⟨rfl, h5, h6⟩
    have HB1 := Aside0.mk (HB.out.trans h6)
    clear h5 h6
    go_wp2_with fail
    go_ret
    rw [HRES.out]
    exact ⟨rfl, HB1.out⟩
   | ok s =>
    rw [hst] at hT hffs
    have hws := wf_step hwf hst
    have HT := Aside0.mk hT
    have HF : Aside0 (dp q l .val [] 0 = dp q (l.drop (i + 1)) s.1 s.2 (max m (s.2.length : Int))) := ⟨hff.trans hffs⟩
    have HWS := Aside0.mk hws
    have HB := Aside0.mk hBB
    clear hT hffs hst hff hI hS hBB hws hwf
    obtain _ | g0 := gk
    ·exfalso; omega
    go_wp2_with fail
    with_reducible refine HT.out.mono ?_
    rintro e w1 ⟨rfl, h5, h6⟩
    have HS1 := Aside0.mk h5
    have HB1 := Aside0.mk (HB.out.trans h6)
    obtain ⟨a1, A1, cc1, d1, wd1, lt1, ft1, hI1, hS1⟩ := h5
    obtain ⟨z0, z1, z2, z3, z4, z5⟩ := hS1.cells
    clear h6 hI1 hS1 z0 z2 z3 z4 z5
    go_wp2_with fail
    go_roundg g0
    case measure => omega
    case rel =>
     exact ⟨i + 1, s.1, s.2, _, rfl, by first | rfl | rw [ei], by omega, by omega, HWS.out.1, by have := HWS.out.2; omega, HF.out, HS1.out, HB1.out⟩
  ·have hil : i = l.length := by omega
   have HRES : Aside0 (dp q l .val [] 0 = m) := ⟨hff.trans (dp_end q l ph st m i hil)⟩
   have b1 : decide ((i : Int) < (l.length : Int)) = false := decide_eq_false (by omega)
   have HB := Aside0.mk hBB
   clear hff hI hS hBB hwf hsl
   go_wp2_with fail
   go_ret
   rw [HRES.out]
   exact ⟨rfl, HB.out⟩
end
end Go.Proofs.YtbikiibpjdiaaaaDoor.Err
