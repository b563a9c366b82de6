/- What was written, read again: texts, words, numbers. -/
import Derived.Test.YtbikiibpjdiaaaaDoorFG
namespace Go.Proofs.YtbikiibpjdiaaaaDoor.Err
open Go.RowKit Go.Proofs.YtbikiibpjdiaaaaDoorW.PrintWords Go.Proofs.YtbikiibpjdiaaaaDoorW.PrintLast Go.Proofs.YtbikiibpjdiaaaaDoorW.PrintMore
open Go.Proofs.YtbikiibpjdiaaaaDoor.Dig Go.Proofs.YtbikiibpjdiaaaaDoor.Tab
set_option linter.unusedVariables false
/-- Bytes that stand at a place, ahead of the end. -/
def Hold (L : List Int) (x : Int) (T : List Int) : Prop := 0 ≤ x ∧ x + T.length < L.length ∧ seg L x (x + T.length) = T
section
variable {L M T U : List Int} {x y z e d c : Int} {esc : Bool}
theorem Hold.app (h : Hold M x (T ++ U)) : Hold M x T ∧ Hold M (x + T.length) U := by
 obtain ⟨h0, h1, h2⟩ := h
 rw [List.length_append] at h1 h2
 have hs := seg_app (L := M) x (x + T.length) (x + (T.length + U.length : Nat)) h0 (by omega) (by omega) (by omega)
 rw [h2] at hs
 obtain ⟨a, b⟩ := List.append_inj hs (by rw [seg_len x _ h0 (by omega) (by omega)]; omega)
 exact ⟨⟨h0, by omega, a⟩, by omega, by omega, by rw [show x + (T.length : Int) + (U.length : Int) = x + ((T.length + U.length : Nat) : Int) by omega]; exact b⟩
theorem Hold.cons (h : Hold M x (c :: T)) : rd M x = c ∧ Hold M (x + 1) T := by
 have h2 := Hold.app (T := [c]) (U := T) h
 obtain ⟨h0, h1, hs⟩ := h2.1
 have e : x + (([c] : List Int).length : Int) = x + 1 := rfl
 rw [e] at hs h1 h2
 rw [seg_one x h0 (by omega)] at hs
 exact ⟨by simpa using hs, h2.2⟩
theorem Hold.get (h : Hold M x T) (k : Nat) (hk : k < T.length) : T[k]? = some (rd M (x + k)) := by
 obtain ⟨h0, h1, hs⟩ := h
 have := seg_get (L := M) x (x + T.length) k h0 (by omega) (by omega)
 rw [hs] at this
 exact this
/-- A piece of one buffer that stands in another. -/
theorem Hold.same (h : Hold M y (seg L x e)) (h0 : 0 ≤ x) (he : x ≤ e) (hl : e ≤ L.length) : 0 ≤ y ∧ y + (e - x) < M.length ∧ seg M y (y + (e - x)) = seg L x e ∧ ∀ k : Int, 0 ≤ k → k < e - x → rd M (y + k) = rd L (x + k) := by
 have hn := seg_len (L := L) x e h0 he hl
 have hy := h.1
 have h1 := h.2.1
 have h2 := h.2.2
 rw [hn] at h1 h2
 rw [show (((e - x).toNat : Nat) : Int) = e - x by omega] at h1 h2
 refine ⟨hy, h1, h2, fun k a b => ?_⟩
 have g1 := h.get k.toNat (by omega)
 rw [seg_get x e k.toNat h0 (by omega) hl, show ((k.toNat : Nat) : Int) = k by omega] at g1
 exact (Option.some.inj g1).symm
/-- More fuel than a text wants changes nothing. -/
theorem fs_more (hT : Txt L) : ∀ (n m : Nat) (x e : Int) (T : List Int), 0 ≤ x → x < L.length → fs L esc n x = some (e, T) → e - x ≤ m → fs L esc m x = some (e, T) := by
 intro n
 induction n with
 | zero => intro m x e T h0 h1 h; cases h
 | succ n ih =>
  intro m x e T h0 h1 h hm
  have hg := fs_gt hT (n + 1) x e T h0 h1 h
  cases m with
  | zero => omega
  | succ m =>
   unfold fs at h ⊢
   split at h
   ·rename_i hc
    rw [if_pos hc]; exact h
   rename_i c1
   rw [if_neg c1]
   split at h
   ·rename_i hc
    have hin := hT.inside h0 h1 (by omega)
    rw [if_pos hc]
    split at h
    ·cases h
    ·rename_i d hd
     have hg2 := escF_gt hT (by omega) (by omega) hd
     obtain ⟨⟨e1, T1⟩, hr, he⟩ := Option.map_eq_some_iff.1 h
     cases he
     rw [ih m d e1 T1 (by omega) hg2.2 hr (by omega)]
     rfl
   rename_i c2
   rw [if_neg c2]
   split at h
   ·cases h
   rename_i c3
   have hin := hT.inside h0 h1 (by omega)
   rw [if_neg c3]
   split at h
   ·rename_i hc
    rw [if_pos hc]
    obtain ⟨⟨e1, T1⟩, hr, he⟩ := Option.map_eq_some_iff.1 h
    cases he
    rw [ih m (x + 1) e1 T1 (by omega) (by omega) hr (by omega)]
    rfl
   rename_i c4
   rw [if_neg c4]
   split at h
   ·rename_i hc
    rw [if_pos hc]
    obtain ⟨⟨e1, T1⟩, hr, he⟩ := Option.map_eq_some_iff.1 h
    cases he
    rw [ih m (x + 3) e1 T1 (by omega) (by have := hc.2.2.1; omega) hr (by omega)]
    rfl
   ·rename_i hc
    rw [if_neg hc]
    obtain ⟨⟨e1, T1⟩, hr, he⟩ := Option.map_eq_some_iff.1 h
    cases he
    rw [ih m (x + 1) e1 T1 (by omega) (by omega) hr (by omega)]
    rfl
theorem fs_ne (hT : Txt L) {n : Nat} (h0 : 0 ≤ x) (h1 : x < L.length) (h : fs L esc n x = some (e, T)) : ∃ b U, T = b :: U := by
 have hg := fs_gt hT _ _ _ _ h0 h1 h
 rw [fs_ew hT _ _ _ _ h0 h1 h, ew_at (by omega) h0, if_pos hg.1]
 split
 ·exact ⟨_, _, rfl⟩
 split
 ·exact ⟨_, _, rfl⟩
 ·exact ⟨_, _, rfl⟩
/-- A byte of 128 or more that is written first stood there. -/
theorem fs_high {n : Nat} (hT2 : Txt L) (h0 : 0 ≤ y) (h1 : y < L.length) (h : fs L esc n y = some (e, T)) {U : List Int} (hT : T = c :: U) (hc : 128 ≤ c) : rd L y = c ∧ ∃ m, fs L esc m (y + 1) = some (e, U) := by
 cases n with
 | zero => cases h
 | succ n =>
  unfold fs at h
  split at h
  ·cases h; cases hT; omega
  split at h
  ·rename_i h92
   split at h
   ·cases h
   ·rename_i d hd
    obtain ⟨⟨e1, T1⟩, hr, he⟩ := Option.map_eq_some_iff.1 h
    simp only [Prod.mk.injEq] at he
    have hd2 : y + 1 < d := by
     unfold escF at hd
     split at hd
     ·cases hd; omega
     split at hd
     ·cases hd; omega
     ·cases hd
    rw [hT] at he
    have hin := hT2.inside h0 h1 (by omega)
    have hg := escF_gt hT2 (by omega) (by omega) hd
    rw [seg_cons y d h0 (by omega) (by omega)] at he
    simp only [List.cons_append, List.cons.injEq] at he
    omega
  split at h
  ·cases h
  split at h
  ·obtain ⟨⟨e1, T1⟩, hr, he⟩ := Option.map_eq_some_iff.1 h
   simp only [Prod.mk.injEq] at he
   rw [hT] at he
   unfold escS at he
   simp only [List.cons_append, List.cons.injEq] at he
   omega
  split at h
  ·obtain ⟨⟨e1, T1⟩, hr, he⟩ := Option.map_eq_some_iff.1 h
   simp only [Prod.mk.injEq] at he
   rw [hT] at he
   unfold escU at he
   simp only [List.cons_append, List.cons.injEq] at he
   omega
  ·obtain ⟨⟨e1, T1⟩, hr, he⟩ := Option.map_eq_some_iff.1 h
   simp only [Prod.mk.injEq] at he
   rw [hT] at he
   simp only [List.cons.injEq] at he
   exact ⟨he.2.1, n, by rw [hr, he.1, he.2.2]⟩
theorem escF_same (hs : ∀ k : Int, 0 ≤ k → k < d - x → rd M (y + k) = rd L (x + k)) (h : escF L x = some d) : escF M y = some (y + (d - x)) := by
 unfold escF at h ⊢
 split at h
 ·rename_i he
  cases h
  have e0 := hs 0 (by omega) (by omega)
  rw [Int.add_zero, Int.add_zero] at e0
  rw [e0, if_pos he]
  congr 1
  omega
 rename_i he
 split at h
 ·rename_i hu
  cases h
  have e0 := hs 0 (by omega) (by omega)
  rw [Int.add_zero, Int.add_zero] at e0
  rw [e0, if_neg he, hs 1 (by omega) (by omega), hs 2 (by omega) (by omega), hs 3 (by omega) (by omega), hs 4 (by omega) (by omega), if_pos hu]
  congr 1
  omega
 ·cases h
theorem fs_esc {n : Nat} (hc : rd M y = 92) (hd : escF M (y + 1) = some d) (h : fs M esc n d = some (e, T)) : fs M esc (n + 1) y = some (e, seg M y d ++ T) := by
 unfold fs
 rw [if_neg (by omega), if_pos hc, hd]
 simp only [h]
 rfl
/-- A text that was written is read to the same text. -/
theorem fs_again (hT : Txt L) (hM : Txt M) : ∀ (n : Nat) (x e : Int) (T : List Int) (y : Int), 0 ≤ x → x < L.length → fs L esc n x = some (e, T) → Hold M y T → fs M esc n y = some (y + T.length, T) := by
 intro n
 induction n with
 | zero => intro x e T y h0 h1 h; cases h
 | succ n ih =>
  intro x e T y h0 h1 h hy
  have hy0 := hy.1
  have esc6 : ∀ (a b c d' : Int) (T1 : List Int) (x1 : Int), 0 ≤ x1 → x1 < L.length → isHex a → isHex b → isHex c → isHex d' → fs L esc n x1 = some (e, T1) → T = [92, 117, a, b, c, d'] ++ T1 → fs M esc (n + 1) y = some (y + T.length, T) := by
   intro a b c d' T1 x1 g0 g1 ha hb hc hd hr hTT
   rw [hTT] at hy ⊢
   obtain ⟨k0, hy1⟩ := hy.app
   have hsg := k0.2.2
   have hlt := k0.2.1
   obtain ⟨r0, k1⟩ := k0.cons
   obtain ⟨r1, k2⟩ := k1.cons
   obtain ⟨r2, k3⟩ := k2.cons
   obtain ⟨r3, k4⟩ := k3.cons
   obtain ⟨r4, k5⟩ := k4.cons
   obtain ⟨r5, _⟩ := k5.cons
   have hd : escF M (y + 1) = some (y + 6) := by
    unfold escF
    rw [r1, if_neg (by decide), if_pos ⟨rfl, by rw [r2]; exact ha, by rw [show y + 1 + 2 = y + 1 + 1 + 1 by omega, r3]; exact hb, by rw [show y + 1 + 3 = y + 1 + 1 + 1 + 1 by omega, r4]; exact hc, by rw [show y + 1 + 4 = y + 1 + 1 + 1 + 1 + 1 by omega, r5]; exact hd⟩]
    congr 1
    omega
   have hn := fs_esc r0 hd (ih x1 e T1 (y + 6) g0 g1 hr (by simpa using hy1))
   have hl6 : y + (([92, 117, a, b, c, d'] : List Int).length : Int) = y + 6 := rfl
   rw [hl6] at hsg
   rw [hn, hsg, List.length_append]
   simp
   omega
  unfold fs at h
  split at h
  ·cases h
   obtain ⟨r0, _⟩ := hy.cons
   unfold fs
   rw [if_pos r0]
   rfl
  rename_i c34
  split at h
  ·rename_i hc
   have hin := hT.inside h0 h1 (by omega)
   split at h
   ·cases h
   ·rename_i d hd
    have hg := escF_gt hT (by omega) (by omega) hd
    obtain ⟨⟨e1, T1⟩, hr, he⟩ := Option.map_eq_some_iff.1 h
    simp only [Prod.mk.injEq] at he
    obtain ⟨rfl, rfl⟩ := he
    obtain ⟨k0, hy1⟩ := hy.app
    obtain ⟨_, s1, s2, s3⟩ := k0.same h0 (by omega) (by omega)
    have hd2 := escF_same (M := M) (y := y + 1) (fun k a b => by rw [show y + 1 + k = y + (k + 1) by omega, show x + 1 + k = x + (k + 1) by omega]; exact s3 (k + 1) (by omega) (by omega)) hd
    have r0 : rd M y = 92 := by have := s3 0 (by omega) (by omega); rw [Int.add_zero, Int.add_zero] at this; rw [this, hc]
    rw [show y + 1 + (d - (x + 1)) = y + (d - x) by omega] at hd2
    rw [seg_len x d h0 (by omega) (by omega), show (((d - x).toNat : Nat) : Int) = d - x by omega] at hy1
    have hn := fs_esc r0 hd2 (ih d e1 T1 _ (by omega) hg.2 hr hy1)
    rw [hn, s2, List.length_append, seg_len x d h0 (by omega) (by omega)]
    congr 2
    omega
  rename_i c92
  split at h
  ·cases h
  rename_i c32
  have hin := hT.inside h0 h1 (by omega)
  split at h
  ·rename_i hs
   obtain ⟨⟨e1, T1⟩, hr, he⟩ := Option.map_eq_some_iff.1 h
   simp only [Prod.mk.injEq] at he
   obtain ⟨rfl, rfl⟩ := he
   have hx : isHex (hx (rd L x / 16)) ∧ isHex (hx (rd L x % 16)) := by
    rcases hs.2 with h | h | h <;> rw [h] <;> decide
   exact esc6 48 48 _ _ T1 (x + 1) (by omega) (by omega) (by decide) (by decide) hx.1 hx.2 hr rfl
  rename_i csg
  split at h
  ·rename_i hl
   obtain ⟨⟨e1, T1⟩, hr, he⟩ := Option.map_eq_some_iff.1 h
   simp only [Prod.mk.injEq] at he
   obtain ⟨rfl, rfl⟩ := he
   have hx : isHex (hx (rd L (x + 2) % 16)) := by
    rcases hl.2.2.2.2 with h | h <;> rw [h] <;> decide
   exact esc6 50 48 50 _ T1 (x + 3) (by omega) (by have := hl.2.2.1; omega) (by decide) (by decide) (by decide) hx hr rfl
  ·rename_i hl
   obtain ⟨⟨e1, T1⟩, hr, he⟩ := Option.map_eq_some_iff.1 h
   simp only [Prod.mk.injEq] at he
   obtain ⟨rfl, rfl⟩ := he
   obtain ⟨r0, k1⟩ := hy.cons
   have hno : ¬ (esc = true ∧ lineEnd M y) := by
    rintro ⟨he, l1, l2, l3, l4⟩
    rw [r0] at l1
    refine hl ⟨he, l1, ?_⟩
    obtain ⟨b, T2, rfl⟩ := fs_ne hT (by omega) (by omega) hr
    obtain ⟨q1, k2⟩ := k1.cons
    rw [l3] at q1
    obtain ⟨p1, m, p2⟩ := fs_high hT (by omega) (by omega) hr rfl (by omega)
    have hin2 := hT.inside (x := x + 1) (by omega) (by omega) (by omega)
    obtain ⟨b2, T3, rfl⟩ := fs_ne hT (by omega) (by omega) p2
    obtain ⟨q2, _⟩ := k2.cons
    rw [show y + 1 + 1 = y + 2 by omega] at q2
    obtain ⟨p3, _⟩ := fs_high hT (by omega) (by omega) p2 rfl (by omega)
    rw [show x + 1 + 1 = x + 2 by omega] at p3
    have hin3 := hT.inside (x := x + 2) (by omega) (by omega) (by omega)
    exact ⟨hin3, by omega, by omega⟩
   unfold fs
   rw [r0, if_neg c34, if_neg c92, if_neg c32, if_neg csg, if_neg hno, ih (x + 1) e1 T1 (y + 1) (by omega) (by omega) hr k1]
   simp
   omega
theorem fstr_again (hT : Txt L) (hM : Txt M) (h0 : 0 ≤ x) (h1 : x + 1 < L.length) (h : fstr L esc x = some (e, T)) (hy : Hold M y T) : fstr M esc y = some (y + T.length, T) := by
 unfold fstr at h
 obtain ⟨⟨e1, T1⟩, hr, he⟩ := Option.map_eq_some_iff.1 h
 simp only [Prod.mk.injEq] at he
 obtain ⟨rfl, rfl⟩ := he
 have hy0 := hy.1
 obtain ⟨r0, k1⟩ := hy.cons
 have ha := fs_again hT hM _ _ _ _ _ (by omega) h1 hr k1
 have k1l := k1.2.1
 unfold fstr
 rw [fs_more hM _ M.length (y + 1) _ _ (by omega) (by omega) ha (by omega)]
 simp
 omega
theorem flit_again {l : List Int} (h : flit L x l = some (e, T)) (hy : Hold M y T) : flit M y l = some (y + T.length, T) := by
 unfold flit at h ⊢
 split at h
 ·cases h
  rw [if_pos hy.2.2]
 ·cases h
theorem r4_ge (i : Nat) (hi : i ≤ (rest L x).length) {p : Nat × Nat} (h : r4 (rest L x) i = p) (hp : p.2 = 0) : i ≤ p.1 := by
 unfold r4 r5 at h
 split at h
 ·rename_i hc
  have hlt := (of_decide_eq_true hc).1
  split at h
  ·rename_i hsg
   unfold r6 at h
   have := dEnd_ge (rest L x) (i + 2) (by omega)
   split at h <;> (rw [← h]; simp only; omega)
  ·unfold r6 at h
   have := dEnd_ge (rest L x) (i + 1) (by omega)
   split at h <;> (rw [← h]; simp only; omega)
 ·rw [← h]; simp
theorem r2_ge (i : Nat) (hi : i ≤ (rest L x).length) {p : Nat × Nat} (h : r2 (rest L x) i = p) (hp : p.2 = 0) : i ≤ p.1 := by
 unfold r2 r3 at h
 split at h
 ·rename_i hc
  have hlt := (of_decide_eq_true hc).1
  have := dEnd_ge (rest L x) (i + 1) (by omega)
  split at h
  ·rw [← h] at hp; cases hp
  ·have := r4_ge _ (by omega) h hp
   omega
 ·exact r4_ge i hi h hp
section
variable {m : Nat} (hT : Txt L) (hM : Txt M) (h0 : 0 ≤ x) (h1 : x < L.length) (g0 : 0 ≤ y) (g1 : y < M.length) (ha : m ≤ (rest L x).length) (hb : m ≤ (rest M y).length)
 (hs : ∀ k : Nat, k < m → rd M (y + k) = rd L (x + k)) (hst : ¬ numC (rd M (y + m)))
include hT hM h0 h1 g0 g1 ha hb hs hst
theorem dEnd_again (i : Nat) (hi : i ≤ m) (hd : dEnd (rest L x) i ≤ m) : dEnd (rest M y) i = dEnd (rest L x) i := by
 have r1 := dEnd_at hT h0 h1 i (by omega)
 have r2 := dEnd_at hM g0 g1 i (by omega)
 have hle := r1.le
 have hrl := rest_len g0 g1
 have r3 : RunTo isDig M (y + i) (y + (dEnd (rest L x) i : Nat)) := by
  refine ⟨by omega, by omega, fun k a b => ?_, ?_⟩
  ·have e := hs (k - y).toNat (by omega)
   rw [show y + (((k - y).toNat : Nat) : Int) = k by omega] at e
   rw [e]
   exact r1.all _ (by omega) (by omega)
  ·by_cases hm : dEnd (rest L x) i = m
   ·rw [hm]; exact fun h => hst (.inl h)
   ·rw [hs _ (by omega)]; exact r1.stop
 have := r2.uniq r3
 omega
theorem r6_again (i : Nat) (hi : i ≤ m) (h : r6 (rest L x) i = (m, 0)) : r6 (rest M y) i = (m, 0) ∧ i < m := by
 unfold r6 at h ⊢
 split at h
 ·cases h
 ·rename_i hne
  simp only [Prod.mk.injEq, and_true] at h
  have hd := dEnd_again hT hM h0 h1 g0 g1 ha hb hs hst i hi (by omega)
  have hg := dEnd_ge (rest L x) i (by omega)
  rw [hd, if_neg hne, h]
  exact ⟨rfl, by omega⟩
theorem r4_again (i : Nat) (hi : i ≤ m) (h : r4 (rest L x) i = (m, 0)) : r4 (rest M y) i = (m, 0) := by
 have ea := rest_is hT h0 h1 i (by omega) (fun c => c = 101 ∨ c = 69) (by decide)
 have eb := rest_is hM g0 g1 i (by omega) (fun c => c = 101 ∨ c = 69) (by decide)
 unfold r4 r5 at h ⊢
 by_cases hc : rd L (x + i) = 101 ∨ rd L (x + i) = 69
 ·rw [decide_eq_true (ea.2 hc), if_pos rfl] at h
  have hlt := (ea.2 hc).1
  have sa := rest_is hT h0 h1 (i + 1) (by omega) (fun c => c = 43 ∨ c = 45) (by decide)
  by_cases hsg : rd L (x + (i + 1 : Nat)) = 43 ∨ rd L (x + (i + 1 : Nat)) = 45
  ·rw [if_pos (sa.2 hsg)] at h
   have hl2 := (sa.2 hsg).1
   have hi2 : i + 2 ≤ m := by
    unfold r6 at h
    split at h
    ·cases h
    ·simp only [Prod.mk.injEq, and_true] at h
     have := dEnd_ge (rest L x) (i + 2) (by omega)
     omega
   have h6 := r6_again hT hM h0 h1 g0 g1 ha hb hs hst (i + 2) hi2 h
   have sb := rest_is hM g0 g1 (i + 1) (by omega) (fun c => c = 43 ∨ c = 45) (by decide)
   rw [decide_eq_true (eb.2 (by rw [hs i (by omega)]; exact hc)), if_pos rfl, if_pos (sb.2 (by rw [hs (i + 1) (by omega)]; exact hsg))]
   exact h6.1
  ·rw [if_neg (fun hh => hsg (sa.1 hh))] at h
   have hi1 : i + 1 ≤ m := by
    unfold r6 at h
    split at h
    ·cases h
    ·simp only [Prod.mk.injEq, and_true] at h
     have := dEnd_ge (rest L x) (i + 1) (by omega)
     omega
   have h6 := r6_again hT hM h0 h1 g0 g1 ha hb hs hst (i + 1) hi1 h
   have sb := rest_is hM g0 g1 (i + 1) (by omega) (fun c => c = 43 ∨ c = 45) (by decide)
   rw [decide_eq_true (eb.2 (by rw [hs i (by omega)]; exact hc)), if_pos rfl, if_neg (fun hh => hsg (by have := sb.1 hh; rw [hs (i + 1) (by omega)] at this; exact this))]
   exact h6.1
 ·rw [decide_eq_false (fun hh => hc (ea.1 hh))] at h
  simp only [Bool.false_eq_true, if_false, Prod.mk.injEq, and_true] at h
  rw [decide_eq_false (fun hh => ?_)]
  ·simp [h]
  ·have hh2 := eb.1 hh
   rw [h] at hh2
   exact hst (by unfold numC; omega)
theorem r2_again (i : Nat) (hi : i ≤ m) (h : r2 (rest L x) i = (m, 0)) : r2 (rest M y) i = (m, 0) := by
 have ea := rest_is hT h0 h1 i (by omega) (fun c => c = 46) (by decide)
 have eb := rest_is hM g0 g1 i (by omega) (fun c => c = 46) (by decide)
 unfold r2 r3 at h ⊢
 by_cases hc : rd L (x + i) = 46
 ·rw [decide_eq_true (ea.2 hc), if_pos rfl] at h
  have hlt := (ea.2 hc).1
  have hge := dEnd_ge (rest L x) (i + 1) (by omega)
  split at h
  ·cases h
  ·rename_i hne
   have hm4 := r4_ge (dEnd (rest L x) (i + 1)) (by omega) h rfl
   simp only at hm4
   have hd := dEnd_again hT hM h0 h1 g0 g1 ha hb hs hst (i + 1) (by omega) (by omega)
   rw [decide_eq_true (eb.2 (by rw [hs i (by omega)]; exact hc)), if_pos rfl, hd, if_neg hne]
   exact r4_again hT hM h0 h1 g0 g1 ha hb hs hst _ (by omega) h
 ·rw [decide_eq_false (fun hh => hc (ea.1 hh))] at h
  simp only [Bool.false_eq_true, if_false] at h
  rw [decide_eq_false (fun hh => ?_)]
  ·simp only [Bool.false_eq_true, if_false]
   exact r4_again hT hM h0 h1 g0 g1 ha hb hs hst i hi h
  ·have hh2 := eb.1 hh
   by_cases hm : i = m
   ·rw [hm] at hh2; exact hst (by unfold numC; omega)
   ·rw [hs i (by omega)] at hh2; exact hc hh2
theorem r1_again (i : Nat) (hil : i ≤ (rest L x).length) (h : r1 (rest L x) i = (m, 0)) : r1 (rest M y) i = (m, 0) ∧ i < m := by
 unfold r1 at h ⊢
 have hge := dEnd_ge (rest L x) i hil
 split at h
 ·cases h
 ·rename_i hne
  have hlt : i < (rest L x).length := by
   by_cases hh : i < (rest L x).length
   ·exact hh
   ·exact absurd (dEnd_end _ _ (by omega)) hne
  have hla := rest_rd h0 h1 i hlt
  split at h
  ·rename_i h48
   have h2 := r2_ge (i + 1) (by omega) h rfl
   simp only at h2
   have hM2 := rest_rd g0 g1 i (by omega)
   have e := hs i (by omega)
   have hdm : dEnd (rest M y) i ≠ i := fun hh => (dEnd_eq hM g0 g1 i (by omega)).1 hh (by rw [e, ← hla, h48]; decide)
   rw [if_neg hdm, hM2, e, ← hla, if_pos h48]
   exact ⟨r2_again hT hM h0 h1 g0 g1 ha hb hs hst (i + 1) h2 h, by omega⟩
  ·rename_i h48
   have h2 := r2_ge _ (by omega) h rfl
   simp only at h2
   have hM2 := rest_rd g0 g1 i (by omega)
   have e := hs i (by omega)
   have hd := dEnd_again hT hM h0 h1 g0 g1 ha hb hs hst i (by omega) h2
   rw [hd, if_neg hne, hM2, e, ← hla, if_neg h48]
   exact ⟨r2_again hT hM h0 h1 g0 g1 ha hb hs hst _ h2 h, by omega⟩
theorem num_again (h : scanNum (rest L x) = (m, 0)) : scanNum (rest M y) = (m, 0) := by
 have ea := rest_is hT h0 h1 0 (by omega) (fun c => c = 45) (by decide)
 have eb := rest_is hM g0 g1 0 (by omega) (fun c => c = 45) (by decide)
 unfold scanNum at h ⊢
 split at h
 ·rename_i hc
  have hla : 1 ≤ (rest L x).length := hc.1
  obtain ⟨h2, h3⟩ := r1_again hT hM h0 h1 g0 g1 ha hb hs hst 1 hla h
  have e0 := hs 0 (by omega)
  rw [show ((0 : Nat) : Int) = 0 from rfl] at e0 ea eb
  rw [if_pos (eb.2 (by rw [e0]; exact ea.1 hc))]
  exact h2
 ·rename_i hc
  obtain ⟨h2, h3⟩ := r1_again hT hM h0 h1 g0 g1 ha hb hs hst 0 (by omega) h
  have e0 := hs 0 (by omega)
  rw [show ((0 : Nat) : Int) = 0 from rfl] at e0 ea eb
  rw [if_neg (fun hh => hc (ea.2 (by rw [← e0]; exact eb.1 hh)))]
  exact h2
end
theorem fnum_again (hT : Txt L) (hM : Txt M) (h0 : 0 ≤ x) (h1 : x < L.length) (h : fnum L x = some (e, T)) (hc : rd L x = 45 ∨ isDig (rd L x)) (hy : Hold M y T) (hst : ¬ numC (rd M (y + T.length))) : fnum M y = some (y + T.length, T) := by
 have hok := fnum_ok (q := fun s => s) hT h0 h1 hc h
 obtain ⟨k1, k2, k3, _⟩ := hok
 subst k3
 obtain ⟨g0, g1, s2, s3⟩ := hy.same h0 (by omega) (by omega)
 have hl := seg_len (L := L) x e h0 (by omega) (by omega)
 have hla := rest_len h0 h1
 have hlb := rest_len g0 (show y < M.length by omega)
 unfold fnum at h ⊢
 split at h
 ·rename_i hz
  simp only [Option.some.injEq, Prod.mk.injEq] at h
  obtain ⟨m, hm⟩ : ∃ m, m = (scanNum (rest L x)).1 := ⟨_, rfl⟩
  rw [← hm] at h
  have hsc : scanNum (rest L x) = (m, 0) := by rw [hm, ← hz]
  rw [hl, show (((e - x).toNat : Nat) : Int) = (m : Int) by omega] at hst
  have hn := num_again (m := m) hT hM h0 h1 g0 (by omega) (by omega) (by omega) (fun k hk => s3 k (by omega) (by omega)) hst hsc
  rw [hn, if_pos rfl, hl, show y + (m : Int) = y + (e - x) by omega, s2, show y + (((e - x).toNat : Nat) : Int) = y + (e - x) by omega]
 ·cases h
end
end Go.Proofs.YtbikiibpjdiaaaaDoor.Err
/- What was written, read again: values. -/
namespace Go.Proofs.YtbikiibpjdiaaaaDoor.Err
open Go.RowKit Go.Proofs.YtbikiibpjdiaaaaDoorW.PrintWords Go.Proofs.YtbikiibpjdiaaaaDoorW.PrintLast Go.Proofs.YtbikiibpjdiaaaaDoorW.PrintMore
open Go.Proofs.YtbikiibpjdiaaaaDoor.Dig Go.Proofs.YtbikiibpjdiaaaaDoor.Tab
set_option linter.unusedVariables false
/-- White space alone is put between. -/
def Airy (ind : Ind) : Prop := ∀ p i, ind = some (p, i) → (∀ c ∈ p, isBlank c) ∧ ∀ c ∈ i, isBlank c
def off (ind : Ind) (d : Nat) : Md → Nat
 | .val => 0
 | _ => (nl ind d).length
section
variable {L M T : List Int} {x y e c : Int} {esc : Bool} {ind ind1 ind2 : Ind}
theorem nl_airy (h : Airy ind) (d : Nat) : ∀ c ∈ nl ind d, isBlank c := by
 cases ind with
 | none => intro c hc; cases hc
 | some p =>
  obtain ⟨p, i⟩ := p
  obtain ⟨hp, hi⟩ := h p i rfl
  intro c hc
  unfold nl at hc
  simp only [List.mem_cons, List.mem_append, List.mem_flatten, List.mem_replicate] at hc
  rcases hc with rfl | hc | ⟨l, ⟨_, rfl⟩, hc⟩
  ·decide
  ·exact hp c hc
  ·exact hi c hc
theorem cb_airy (ind : Ind) : ∀ c ∈ cb ind, isBlank c := by
 cases ind with
 | none => intro c hc; cases hc
 | some p => intro c hc; simp only [cb, List.mem_singleton] at hc; subst hc; decide
theorem skp_hold (hM : Txt M) (h : Hold M y T) (hb : ∀ c ∈ T, isBlank c) (hs : ¬ isBlank (rd M (y + T.length))) : skp M y = y + T.length := by
 have h0 := h.1
 have h1 := h.2.1
 refine (skp_run hM h0 (by omega)).uniq ⟨by omega, h1, fun k a b => ?_, hs⟩
 have := h.get (k - y).toNat (by omega)
 rw [show y + (((k - y).toNat : Nat) : Int) = k by omega] at this
 exact hb _ (List.mem_of_getElem? this)
theorem skp_same (hM : Txt M) (h0 : 0 ≤ y) (h1 : y < M.length) (hs : ¬ isBlank (rd M y)) : skp M y = y :=
 (skp_run hM h0 h1).uniq ⟨by omega, h1, fun k a b => by omega, hs⟩
theorem nl_stop {d : Nat} (h : Hold M y (nl ind d ++ [c])) (hc : c = 125 ∨ c = 93) : ¬ numC (rd M y) := by
 cases ind with
 | none => obtain ⟨r, _⟩ := Hold.cons (T := []) h; unfold numC isDig; omega
 | some p => obtain ⟨p, i⟩ := p; obtain ⟨r, _⟩ := Hold.cons (T := _ ++ [c]) h; unfold numC isDig; omega
theorem fv_nbv {n d : Nat} {r : Int × List Int} (h : fv L esc ind n .val x d = some r) : ¬ isBlank (rd L x) ∧ rd L x ≠ 93 ∧ rd L x ≠ 125 := by
 cases n with
 | zero => cases h
 | succ n =>
  rw [fv_val] at h
  by_cases hb : isBlank (rd L x) ∨ rd L x = 93 ∨ rd L x = 125
  ·exfalso
   unfold isBlank at hb
   rw [if_neg (by omega), if_neg (by omega), if_neg (by omega), if_neg (by omega), if_neg (by omega), if_neg (by omega), if_neg (by unfold isDig; omega)] at h
   cases h
  ·exact ⟨fun a => hb (.inl a), fun a => hb (.inr (.inl a)), fun a => hb (.inr (.inr a))⟩
theorem fv_nb {n d : Nat} {md : Md} {r : Int × List Int} (h : fv L esc ind n md x d = some r) : ¬ isBlank (rd L x) ∧ rd L x ≠ 93 ∧ rd L x ≠ 125 := by
 cases n with
 | zero => cases h
 | succ n =>
  cases md with
  | val => exact fv_nbv h
  | key =>
   rw [fv_key] at h
   split at h
   ·rename_i hc; rw [hc]; decide
   ·cases h
  | item =>
   rw [fv_item] at h
   cases hv : fv L esc ind n .val x d with
   | none => rw [hv] at h; cases h
   | some r => exact fv_nbv hv
/-- What is written begins with the line. -/
theorem fv_nl {n d : Nat} {md : Md} (h : fv L esc ind n md x d = some (e, T)) (hm : md = .key ∨ md = .item) : ∃ R, T = nl ind d ++ R := by
 cases n with
 | zero => cases h
 | succ n =>
  rcases hm with rfl | rfl
  ·rw [fv_key] at h
   split at h
   ·split at h
    ·cases h
    ·split at h
     ·split at h
      ·cases h
      ·split at h
       ·obtain ⟨r, _, he⟩ := Option.map_eq_some_iff.1 h
        cases he
        exact ⟨_, List.append_assoc ..⟩
       split at h
       ·cases h
        exact ⟨_, List.append_assoc ..⟩
       ·cases h
     ·cases h
   ·cases h
  ·rw [fv_item] at h
   split at h
   ·cases h
   ·split at h
    ·obtain ⟨r, _, he⟩ := Option.map_eq_some_iff.1 h
     cases he
     exact ⟨_, List.append_assoc ..⟩
    split at h
    ·cases h
     exact ⟨_, by rw [List.append_assoc, List.append_assoc]⟩
    ·cases h
/-- With another indent it ends at the same place. -/
theorem fv_ends (ind2 : Ind) : ∀ (n : Nat) (md : Md) (x : Int) (d : Nat) (e : Int) (T : List Int), fv L esc ind n md x d = some (e, T) → ∃ T2, fv L esc ind2 n md x d = some (e, T2) := by
 intro n
 induction n with
 | zero => intro md x d e T h; cases h
 | succ n ih =>
  intro md x d e T h
  cases md with
  | val =>
   rw [fv_val] at h ⊢
   split at h
   ·rename_i c
    rw [if_pos c]
    split at h
    ·cases h
    rename_i c
    rw [if_neg c]
    split at h
    ·rename_i c; rw [if_pos c]; cases h; exact ⟨_, rfl⟩
    rename_i c
    rw [if_neg c]
    obtain ⟨r, hr, he⟩ := Option.map_eq_some_iff.1 h
    obtain ⟨T2, h2⟩ := ih _ _ _ r.1 r.2 hr
    cases he
    exact ⟨_, by rw [h2]; rfl⟩
   rename_i c
   rw [if_neg c]
   split at h
   ·rename_i c
    rw [if_pos c]
    split at h
    ·cases h
    rename_i c
    rw [if_neg c]
    split at h
    ·rename_i c; rw [if_pos c]; cases h; exact ⟨_, rfl⟩
    rename_i c
    rw [if_neg c]
    obtain ⟨r, hr, he⟩ := Option.map_eq_some_iff.1 h
    obtain ⟨T2, h2⟩ := ih _ _ _ r.1 r.2 hr
    cases he
    exact ⟨_, by rw [h2]; rfl⟩
   rename_i c
   rw [if_neg c]
   exact ⟨T, h⟩
  | key =>
   rw [fv_key] at h ⊢
   split at h
   ·rename_i c
    rw [if_pos c]
    split at h
    ·cases h
    ·rename_i e1 T1 hs
     split at h
     ·rename_i c
      rw [if_pos c]
      split at h
      ·cases h
      ·rename_i e2 V hv
       obtain ⟨V2, hv2⟩ := ih _ _ _ _ _ hv
       rw [hv2]
       simp only
       split at h
       ·rename_i c
        rw [if_pos c]
        obtain ⟨r, hr, he⟩ := Option.map_eq_some_iff.1 h
        obtain ⟨T2, h2⟩ := ih _ _ _ r.1 r.2 hr
        cases he
        exact ⟨_, by rw [h2]; rfl⟩
       rename_i c
       rw [if_neg c]
       split at h
       ·rename_i c; rw [if_pos c]; cases h; exact ⟨_, rfl⟩
       ·cases h
     ·cases h
   ·cases h
  | item =>
   rw [fv_item] at h ⊢
   split at h
   ·cases h
   ·rename_i e2 V hv
    obtain ⟨V2, hv2⟩ := ih _ _ _ _ _ hv
    rw [hv2]
    simp only
    split at h
    ·rename_i c
     rw [if_pos c]
     obtain ⟨r, hr, he⟩ := Option.map_eq_some_iff.1 h
     obtain ⟨T2, h2⟩ := ih _ _ _ r.1 r.2 hr
     cases he
     exact ⟨_, by rw [h2]; rfl⟩
    rename_i c
    rw [if_neg c]
    split at h
    ·rename_i c; rw [if_pos c]; cases h; exact ⟨_, rfl⟩
    ·cases h
/-- More fuel than a value wants changes nothing. -/
theorem fv_more (hT : Txt L) : ∀ (n m : Nat) (md : Md) (x : Int) (d : Nat) (e : Int) (T : List Int), 0 ≤ x → x < L.length → fv L esc ind n md x d = some (e, T) → e - x ≤ m → fv L esc ind m md x d = some (e, T) := by
 intro n
 induction n with
 | zero => intro m md x d e T h0 h1 h; cases h
 | succ n ih =>
  intro m md x d e T h0 h1 h hm
  have hok := fv_ok (q := fun s => s) hT _ _ _ _ _ _ h0 h1 h
  cases m with
  | zero => omega
  | succ m =>
   cases md with
   | val =>
    rw [fv_val] at h ⊢
    split at h
    ·rename_i c
     have hin := hT.inside h0 h1 (by omega)
     have hk := skp_ge hT (x := x + 1) (by omega) (by omega)
     rw [if_pos c]
     split at h
     ·cases h
     rename_i c
     rw [if_neg c]
     split at h
     ·rename_i c; rw [if_pos c]; exact h
     rename_i c
     rw [if_neg c]
     obtain ⟨r, hr, he⟩ := Option.map_eq_some_iff.1 h
     cases he
     rw [ih m _ _ _ r.1 r.2 (by omega) hk.2 hr (by omega)]
     rfl
    rename_i c
    rw [if_neg c]
    split at h
    ·rename_i c
     have hin := hT.inside h0 h1 (by omega)
     have hk := skp_ge hT (x := x + 1) (by omega) (by omega)
     rw [if_pos c]
     split at h
     ·cases h
     rename_i c
     rw [if_neg c]
     split at h
     ·rename_i c; rw [if_pos c]; exact h
     rename_i c
     rw [if_neg c]
     obtain ⟨r, hr, he⟩ := Option.map_eq_some_iff.1 h
     cases he
     rw [ih m _ _ _ r.1 r.2 (by omega) hk.2 hr (by omega)]
     rfl
    rename_i c
    rw [if_neg c]
    exact h
   | key =>
    rw [fv_key] at h ⊢
    split at h
    ·rename_i c
     have hin := hT.inside h0 h1 (by omega)
     rw [if_pos c]
     split at h
     ·cases h
     ·rename_i e1 T1 hs
      have hso := fstr_ok (q := fun s => s) hT h0 (by omega) hs
      have hk1 := skp_ge hT (x := e1) (by omega) hso.2.1
      split at h
      ·rename_i c58
       have hin2 := hT.inside (x := skp L e1) (by omega) hk1.2 (by omega)
       have hk2 := skp_ge hT (x := skp L e1 + 1) (by omega) (by omega)
       rw [if_pos c58]
       split at h
       ·cases h
       ·rename_i e2 V hv
        have hvo := fv_ok (q := fun s => s) hT _ _ _ _ _ _ (by omega) hk2.2 hv
        have hk3 := skp_ge hT (x := e2) (by omega) hvo.2.1
        have he2 : e2 + 1 ≤ e := by
         split at h
         ·rename_i c44
          have hin3 := hT.inside (x := skp L e2) (by omega) hk3.2 (by omega)
          have hk4 := skp_ge hT (x := skp L e2 + 1) (by omega) (by omega)
          obtain ⟨r, hr, he⟩ := Option.map_eq_some_iff.1 h
          have := fv_ok (q := fun s => s) hT _ _ _ _ r.1 r.2 (by omega) hk4.2 hr
          cases he
          omega
         split at h
         ·cases h; omega
         ·cases h
        rw [ih m _ _ _ _ _ (by omega) hk2.2 hv (by omega)]
        simp only
        split at h
        ·rename_i c44
         have hin3 := hT.inside (x := skp L e2) (by omega) hk3.2 (by omega)
         have hk4 := skp_ge hT (x := skp L e2 + 1) (by omega) (by omega)
         rw [if_pos c44]
         obtain ⟨r, hr, he⟩ := Option.map_eq_some_iff.1 h
         cases he
         rw [ih m _ _ _ r.1 r.2 (by omega) hk4.2 hr (by omega)]
         rfl
        rename_i c44
        rw [if_neg c44]
        exact h
      ·cases h
    ·cases h
   | item =>
    rw [fv_item] at h ⊢
    split at h
    ·cases h
    ·rename_i e2 V hv
     have hvo := fv_ok (q := fun s => s) hT _ _ _ _ _ _ h0 h1 hv
     have hk3 := skp_ge hT (x := e2) (by omega) hvo.2.1
     have he2 : e2 + 1 ≤ e := by
      split at h
      ·rename_i c44
       have hin3 := hT.inside (x := skp L e2) (by omega) hk3.2 (by omega)
       have hk4 := skp_ge hT (x := skp L e2 + 1) (by omega) (by omega)
       obtain ⟨r, hr, he⟩ := Option.map_eq_some_iff.1 h
       have := fv_ok (q := fun s => s) hT _ _ _ _ r.1 r.2 (by omega) hk4.2 hr
       cases he
       omega
      split at h
      ·cases h; omega
      ·cases h
     rw [ih m _ _ _ _ _ h0 h1 hv (by omega)]
     simp only
     split at h
     ·rename_i c44
      have hin3 := hT.inside (x := skp L e2) (by omega) hk3.2 (by omega)
      have hk4 := skp_ge hT (x := skp L e2 + 1) (by omega) (by omega)
      rw [if_pos c44]
      obtain ⟨r, hr, he⟩ := Option.map_eq_some_iff.1 h
      cases he
      rw [ih m _ _ _ r.1 r.2 (by omega) hk4.2 hr (by omega)]
      rfl
     rename_i c44
     rw [if_neg c44]
     exact h
/-- What was written with one indent is read with another to what that other writes. -/
theorem fv_again (hT : Txt L) (hM : Txt M) (ha : Airy ind1) : ∀ (n : Nat) (md : Md) (x : Int) (d : Nat) (e : Int) (T1 T2 : List Int) (y : Int), 0 ≤ x → x < L.length → fv L esc ind1 n md x d = some (e, T1) → fv L esc ind2 n md x d = some (e, T2) →
  Hold M y T1 → ¬ numC (rd M (y + T1.length)) → fv M esc ind2 n md (y + off ind1 d md) d = some (y + T1.length, T2) := by
 intro n
 induction n with
 | zero => intro md x d e T1 T2 y h0 h1 hf; cases hf
 | succ n ih =>
  intro md x d e T1 T2 y h0 h1 hf hf2 hy hst
  have hy0 := hy.1
  have hyl := hy.2.1
  cases md with
  | val =>
   show fv M esc ind2 (n + 1) .val (y + ((0 : Nat) : Int)) d = _
   rw [show y + ((0 : Nat) : Int) = y by omega]
   have hnb := fv_nb hf
   rw [fv_val] at hf hf2 ⊢
   have open_ : ∀ (b s : Int) (md : Md), md = .key ∨ md = .item → (s = 125 ∨ s = 93) → (md = .key → s = 125) → rd L x = b → b ≠ 0 → ∀ K1 K2 : List Int, fv L esc ind1 n md (skp L (x + 1)) (d + 1) = some (e, K1) → fv L esc ind2 n md (skp L (x + 1)) (d + 1) = some (e, K2) → T1 = b :: K1 →
     rd M y = b ∧ rd M (skp M (y + 1)) ≠ s ∧ fv M esc ind2 n md (skp M (y + 1)) (d + 1) = some (y + T1.length, K2) := by
    intro b s md hmd hs hsk hb hb0 K1 K2 k1 k2 hT1
    subst hT1
    have hin := hT.inside h0 h1 (by omega)
    have hk := skp_ge hT (x := x + 1) (by omega) (by omega)
    obtain ⟨r0, hK⟩ := hy.cons
    have hl : y + ((b :: K1).length : Int) = y + 1 + (K1.length : Int) := by rw [List.length_cons]; omega
    rw [hl] at hst ⊢
    have h := ih md _ _ _ _ _ (y + 1) (by omega) hk.2 k1 k2 hK hst
    obtain ⟨R, hR⟩ := fv_nl k1 hmd
    rw [hR] at hK
    have ho : off ind1 (d + 1) md = (nl ind1 (d + 1)).length := by rcases hmd with rfl | rfl <;> rfl
    rw [ho] at h
    have hb2 := fv_nb h
    have hsk2 := skp_hold hM hK.app.1 (nl_airy ha (d + 1)) hb2.1
    rw [hsk2]
    refine ⟨r0, ?_, h⟩
    rcases hs with rfl | rfl
    ·exact hb2.2.2
    ·exact hb2.2.1
   split at hf
   ·rename_i c
    rw [if_pos c] at hf2
    split at hf
    ·cases hf
    rename_i cd
    rw [if_neg cd] at hf2
    split at hf
    ·rename_i c2
     rw [if_pos c2] at hf2
     cases hf
     cases hf2
     obtain ⟨r0, k0⟩ := hy.cons
     obtain ⟨r1, _⟩ := k0.cons
     have hl : ((([123, 125] : List Int).length : Nat) : Int) = 2 := rfl
     rw [hl] at hyl ⊢
     rw [if_pos r0, if_neg cd, skp_same hM (by omega) (by omega) (by rw [r1]; decide), if_pos r1]
     congr 2
     omega
    rename_i c2
    rw [if_neg c2] at hf2
    obtain ⟨r, hr, he⟩ := Option.map_eq_some_iff.1 hf
    obtain ⟨r2, hr2, he2⟩ := Option.map_eq_some_iff.1 hf2
    simp only [Prod.mk.injEq] at he he2
    obtain ⟨a1, a2, a3⟩ := open_ 123 125 .key (.inl rfl) (.inl rfl) (fun _ => rfl) c (by decide) r.2 r2.2 (by rw [← he.1]; exact hr) (by rw [← he2.1]; exact hr2) he.2.symm
    rw [if_pos a1, if_neg cd, if_neg a2, a3, ← he2.2]
    rfl
   rename_i c123
   rw [if_neg c123] at hf2
   split at hf
   ·rename_i c
    rw [if_pos c] at hf2
    split at hf
    ·cases hf
    rename_i cd
    rw [if_neg cd] at hf2
    split at hf
    ·rename_i c2
     rw [if_pos c2] at hf2
     cases hf
     cases hf2
     obtain ⟨r0, k0⟩ := hy.cons
     obtain ⟨r1, _⟩ := k0.cons
     have hl : ((([91, 93] : List Int).length : Nat) : Int) = 2 := rfl
     rw [hl] at hyl ⊢
     rw [if_neg (by rw [r0]; decide), if_pos r0, if_neg cd, skp_same hM (by omega) (by omega) (by rw [r1]; decide), if_pos r1]
     congr 2
     omega
    rename_i c2
    rw [if_neg c2] at hf2
    obtain ⟨r, hr, he⟩ := Option.map_eq_some_iff.1 hf
    obtain ⟨r2, hr2, he2⟩ := Option.map_eq_some_iff.1 hf2
    simp only [Prod.mk.injEq] at he he2
    obtain ⟨a1, a2, a3⟩ := open_ 91 93 .item (.inr rfl) (.inr rfl) (fun h => by cases h) c (by decide) r.2 r2.2 (by rw [← he.1]; exact hr) (by rw [← he2.1]; exact hr2) he.2.symm
    rw [if_neg (by rw [a1]; decide), if_pos a1, if_neg cd, if_neg a2, a3, ← he2.2]
    rfl
   rename_i c91
   rw [if_neg c91] at hf2
   have hTT : T1 = T2 := by rw [hf] at hf2; cases hf2; rfl
   subst hTT
   clear hf2
   split at hf
   ·rename_i c
    have hin := hT.inside h0 h1 (by omega)
    have h := fstr_again hT hM h0 (by omega) hf hy
    have r0 : rd M y = 34 := by
     unfold fstr at hf
     obtain ⟨r, hr, he⟩ := Option.map_eq_some_iff.1 hf
     simp only [Prod.mk.injEq] at he
     rw [← he.2] at hy
     exact hy.cons.1
    rw [if_neg (by rw [r0]; decide), if_neg (by rw [r0]; decide), if_pos r0]
    exact h
   rename_i c34
   have word : ∀ (l : List Int) (b : Int) (r : List Int), l = b :: r → flit L x l = some (e, T1) → rd M y = b ∧ flit M y l = some (y + T1.length, T1) := by
    intro l b r hl hff
    refine ⟨?_, flit_again hff hy⟩
    unfold flit at hff
    split at hff
    ·cases hff
     rw [hl] at hy
     exact hy.cons.1
    ·cases hff
   split at hf
   ·obtain ⟨r0, h⟩ := word lTrue 116 _ rfl hf
    rw [if_neg (by rw [r0]; decide), if_neg (by rw [r0]; decide), if_neg (by rw [r0]; decide), if_pos r0]
    exact h
   rename_i c116
   split at hf
   ·obtain ⟨r0, h⟩ := word lFalse 102 _ rfl hf
    rw [if_neg (by rw [r0]; decide), if_neg (by rw [r0]; decide), if_neg (by rw [r0]; decide), if_neg (by rw [r0]; decide), if_pos r0]
    exact h
   rename_i c102
   split at hf
   ·obtain ⟨r0, h⟩ := word lNull 110 _ rfl hf
    rw [if_neg (by rw [r0]; decide), if_neg (by rw [r0]; decide), if_neg (by rw [r0]; decide), if_neg (by rw [r0]; decide), if_neg (by rw [r0]; decide), if_pos r0]
    exact h
   rename_i c110
   split at hf
   ·rename_i c
    have h := fnum_again hT hM h0 h1 hf c hy hst
    have hok := fnum_ok (q := fun s => s) hT h0 h1 c hf
    have hsm := hok.2.2.1
    rw [hsm] at hy
    have hsame := (hy.same h0 (by omega) (by omega)).2.2.2 0 (by omega) (by omega)
    rw [Int.add_zero, Int.add_zero] at hsame
    rw [hsame, if_neg c123, if_neg c91, if_neg c34, if_neg c116, if_neg c102, if_neg c110, if_pos c]
    exact h
   ·cases hf
  | key =>
   show fv M esc ind2 (n + 1) .key (y + ((nl ind1 d).length : Int)) d = _
   rw [fv_key] at hf hf2 ⊢
   split at hf
   ·rename_i c34
    rw [if_pos c34] at hf2
    have hin := hT.inside h0 h1 (by omega)
    cases hs : fstr L esc x with
    | none => rw [hs] at hf; cases hf
    | some p =>
     obtain ⟨e1, T⟩ := p
     rw [hs] at hf hf2
     simp only at hf hf2
     have hso := fstr_ok (q := fun s => s) hT h0 (by omega) hs
     have hk1 := skp_ge hT (x := e1) (by omega) hso.2.1
     split at hf
     ·rename_i c58
      rw [if_pos c58] at hf2
      have hin2 := hT.inside (x := skp L e1) (by omega) hk1.2 (by omega)
      have hk2 := skp_ge hT (x := skp L e1 + 1) (by omega) (by omega)
      cases hv : fv L esc ind1 n .val (skp L (skp L e1 + 1)) d with
      | none => rw [hv] at hf; cases hf
      | some p =>
       obtain ⟨e2, V⟩ := p
       obtain ⟨V2, hv2⟩ := fv_ends ind2 _ _ _ _ _ _ hv
       rw [hv] at hf
       rw [hv2] at hf2
       simp only at hf hf2
       have hvo := fv_ok (q := fun s => s) hT _ _ _ _ _ _ (by omega) hk2.2 hv
       have hk3 := skp_ge hT (x := e2) (by omega) hvo.2.1
       -- the name, its colon, the value, in the other buffer
       have front : ∀ R : List Int, T1 = nl ind1 d ++ (T ++ (58 :: (cb ind1 ++ (V ++ R)))) → (∀ p, Hold M p R → ¬ numC (rd M p)) →
         ∃ p4 : Int, Hold M p4 R ∧ p4 + R.length = y + T1.length ∧ rd M (y + (nl ind1 d).length) = 34 ∧ ∃ p1, fstr M esc (y + (nl ind1 d).length) = some (p1, T) ∧ rd M (skp M p1) = 58 ∧ fv M esc ind2 n .val (skp M (skp M p1 + 1)) d = some (p4, V2) := by
        intro R hR hRs
        have hy2 := hy
        rw [hR] at hy2
        obtain ⟨_, hyA⟩ := hy2.app
        obtain ⟨hyT, hyB⟩ := hyA.app
        obtain ⟨r58, hyC⟩ := hyB.cons
        obtain ⟨hyc, hyD⟩ := hyC.app
        obtain ⟨hyV, hyR⟩ := hyD.app
        have hfs := fstr_again hT hM h0 (by omega) hs hyT
        have r34 : rd M (y + (nl ind1 d).length) = 34 := by
         have hs2 := hs
         unfold fstr at hs2
         obtain ⟨r, hr, he⟩ := Option.map_eq_some_iff.1 hs2
         simp only [Prod.mk.injEq] at he
         rw [← he.2] at hyT
         exact hyT.cons.1
        have hval := ih .val _ _ _ _ _ _ (by omega) hk2.2 hv hv2 hyV (hRs _ hyR)
        rw [show off ind1 d .val = 0 from rfl, Int.natCast_zero, Int.add_zero] at hval
        have g1 := hyB.1
        have g2 := hyB.2.1
        have g3 := hyC.2.1
        rw [List.length_append] at g3
        have sk1 := skp_same hM g1 (by omega) (by rw [r58]; decide)
        have sk2 := skp_hold hM hyc (cb_airy ind1) (fv_nb hval).1
        refine ⟨_, hyR, ?_, r34, _, hfs, by rw [sk1]; exact r58, by rw [sk1, sk2]; exact hval⟩
        rw [hR]
        simp only [List.length_append, List.length_cons]
        omega
       split at hf
       ·rename_i c44
        rw [if_pos c44] at hf2
        have hin3 := hT.inside (x := skp L e2) (by omega) hk3.2 (by omega)
        have hk4 := skp_ge hT (x := skp L e2 + 1) (by omega) (by omega)
        obtain ⟨r, hr, he⟩ := Option.map_eq_some_iff.1 hf
        obtain ⟨r2, hr2, he2⟩ := Option.map_eq_some_iff.1 hf2
        simp only [Prod.mk.injEq] at he he2
        obtain ⟨p4, hyR, hpe, r34, p1, hfs, r58, hval⟩ := front (44 :: r.2) (by rw [← he.2]; simp) (fun p hp => by rw [hp.cons.1]; unfold numC isDig; omega)
        obtain ⟨r44, hyK⟩ := hyR.cons
        have g1 := hyR.1
        have g2 := hyR.2.1
        rw [List.length_cons] at hpe
        have hst2 : ¬ numC (rd M (p4 + 1 + r.2.length)) := by rw [show p4 + 1 + (r.2.length : Int) = y + T1.length by omega]; exact hst
        have hkey := ih .key _ _ _ _ _ (p4 + 1) (by omega) hk4.2 hr (by rw [show r.1 = r2.1 by omega]; exact hr2) hyK hst2
        obtain ⟨R, hR⟩ := fv_nl hr (.inl rfl)
        rw [hR] at hyK
        have sk5 := skp_hold hM hyK.app.1 (nl_airy ha d) (fv_nb hkey).1
        have sk4 := skp_same hM g1 (by omega) (by rw [r44]; decide)
        rw [if_pos r34, hfs]
        simp only
        rw [if_pos r58, hval]
        simp only
        rw [sk4, if_pos r44, sk5]
        rw [show off ind1 d .key = (nl ind1 d).length from rfl] at hkey
        rw [hkey, ← he2.2]
        simp only [Option.map_some, Option.some.injEq, Prod.mk.injEq, and_true]
        omega
       rename_i c44
       rw [if_neg c44] at hf2
       split at hf
       ·rename_i c125
        rw [if_pos c125] at hf2
        simp only [Option.some.injEq, Prod.mk.injEq] at hf hf2
        obtain ⟨p4, hyR, hpe, r34, p1, hfs, r58, hval⟩ := front (nl ind1 (d - 1) ++ [125]) (by rw [← hf.2]; simp) (fun p hp => nl_stop hp (.inl rfl))
        obtain ⟨hyn, hyE⟩ := hyR.app
        obtain ⟨r125, _⟩ := Hold.cons (T := []) hyE
        have sk4 := skp_hold hM hyn (nl_airy ha (d - 1)) (by rw [r125]; decide)
        rw [if_pos r34, hfs]
        simp only
        rw [if_pos r58, hval]
        simp only
        rw [sk4, if_neg (by rw [r125]; decide), if_pos r125, ← hf2.2]
        simp only [Option.some.injEq, Prod.mk.injEq, and_true]
        rw [List.length_append] at hpe
        simp only [List.length_cons, List.length_nil] at hpe
        omega
       ·cases hf
     ·cases hf
   ·cases hf
  | item =>
   show fv M esc ind2 (n + 1) .item (y + ((nl ind1 d).length : Int)) d = _
   rw [fv_item] at hf hf2 ⊢
   cases hv : fv L esc ind1 n .val x d with
   | none => rw [hv] at hf; cases hf
   | some p =>
    obtain ⟨e2, V⟩ := p
    obtain ⟨V2, hv2⟩ := fv_ends ind2 _ _ _ _ _ _ hv
    rw [hv] at hf
    rw [hv2] at hf2
    simp only at hf hf2
    have hvo := fv_ok (q := fun s => s) hT _ _ _ _ _ _ h0 h1 hv
    have hk3 := skp_ge hT (x := e2) (by omega) hvo.2.1
    have front : ∀ R : List Int, T1 = nl ind1 d ++ (V ++ R) → (∀ p, Hold M p R → ¬ numC (rd M p)) →
      ∃ p4 : Int, Hold M p4 R ∧ p4 + R.length = y + T1.length ∧ fv M esc ind2 n .val (y + (nl ind1 d).length) d = some (p4, V2) := by
     intro R hR hRs
     have hy2 := hy
     rw [hR] at hy2
     obtain ⟨_, hyA⟩ := hy2.app
     obtain ⟨hyV, hyR⟩ := hyA.app
     have hval := ih .val _ _ _ _ _ _ h0 h1 hv hv2 hyV (hRs _ hyR)
     rw [show off ind1 d .val = 0 from rfl, Int.natCast_zero, Int.add_zero] at hval
     refine ⟨_, hyR, ?_, hval⟩
     rw [hR]
     simp only [List.length_append]
     omega
    split at hf
    ·rename_i c44
     rw [if_pos c44] at hf2
     have hin3 := hT.inside (x := skp L e2) (by omega) hk3.2 (by omega)
     have hk4 := skp_ge hT (x := skp L e2 + 1) (by omega) (by omega)
     obtain ⟨r, hr, he⟩ := Option.map_eq_some_iff.1 hf
     obtain ⟨r2, hr2, he2⟩ := Option.map_eq_some_iff.1 hf2
     simp only [Prod.mk.injEq] at he he2
     obtain ⟨p4, hyR, hpe, hval⟩ := front (44 :: r.2) (by rw [← he.2]; simp) (fun p hp => by rw [hp.cons.1]; unfold numC isDig; omega)
     obtain ⟨r44, hyK⟩ := hyR.cons
     have g1 := hyR.1
     have g2 := hyR.2.1
     rw [List.length_cons] at hpe
     have hst2 : ¬ numC (rd M (p4 + 1 + r.2.length)) := by rw [show p4 + 1 + (r.2.length : Int) = y + T1.length by omega]; exact hst
     have hkey := ih .item _ _ _ _ _ (p4 + 1) (by omega) hk4.2 hr (by rw [show r.1 = r2.1 by omega]; exact hr2) hyK hst2
     obtain ⟨R, hR⟩ := fv_nl hr (.inr rfl)
     rw [hR] at hyK
     have sk5 := skp_hold hM hyK.app.1 (nl_airy ha d) (fv_nb hkey).1
     have sk4 := skp_same hM g1 (by omega) (by rw [r44]; decide)
     rw [hval]
     simp only
     rw [sk4, if_pos r44, sk5]
     rw [show off ind1 d .item = (nl ind1 d).length from rfl] at hkey
     rw [hkey, ← he2.2]
     simp only [Option.map_some, Option.some.injEq, Prod.mk.injEq, and_true]
     omega
    rename_i c44
    rw [if_neg c44] at hf2
    split at hf
    ·rename_i c93
     rw [if_pos c93] at hf2
     simp only [Option.some.injEq, Prod.mk.injEq] at hf hf2
     obtain ⟨p4, hyR, hpe, hval⟩ := front (nl ind1 (d - 1) ++ [93]) (by rw [← hf.2]; simp) (fun p hp => nl_stop hp (.inr rfl))
     obtain ⟨hyn, hyE⟩ := hyR.app
     obtain ⟨r93, _⟩ := Hold.cons (T := []) hyE
     have sk4 := skp_hold hM hyn (nl_airy ha (d - 1)) (by rw [r93]; decide)
     rw [hval]
     simp only
     rw [sk4, if_neg (by rw [r93]; decide), if_pos r93, ← hf2.2]
     simp only [Option.some.injEq, Prod.mk.injEq, and_true]
     rw [List.length_append] at hpe
     simp only [List.length_cons, List.length_nil] at hpe
     omega
    ·cases hf
/-- Bytes that are the whole of a buffer. -/
theorem hold_all (T : List Int) : Hold (T ++ [0]) 0 T := by
 refine ⟨Int.le_refl _, by rw [List.length_append, List.length_singleton]; omega, ?_⟩
 unfold seg
 rw [show (0 + (T.length : Int)).toNat = T.length by omega, List.take_left]
 rfl
/-- A whole text that was written, read again. -/
theorem fj_again (hT : Txt L) (hM : Txt (T ++ [0])) (ha : Airy ind1) {T2 : List Int} {e2 : Int} (h : fj L esc ind1 = some (e, T)) (h2 : fj L esc ind2 = some (e2, T2)) : fj (T ++ [0]) esc ind2 = some ((T.length : Int), T2) := by
 have hpos := hT.pos
 have hlen : ((T ++ [(0 : Int)]).length : Int) = T.length + 1 := by rw [List.length_append]; rfl
 have hk := skp_ge hT (x := 0) (by omega) (by omega)
 unfold fj at h h2
 split at h
 ·cases h
 rename_i e1 T1 hv
 split at h
 ·simp only [Option.some.injEq, Prod.mk.injEq] at h
  obtain ⟨rfl, rfl⟩ := h
  split at h2
  ·cases h2
  rename_i e3 T3 hv2
  split at h2
  ·simp only [Option.some.injEq, Prod.mk.injEq] at h2
   obtain ⟨rfl, rfl⟩ := h2
   obtain ⟨T4, hv3⟩ := fv_ends ind2 _ _ _ _ _ _ hv
   have he : e3 = e1 := by rw [hv2] at hv3; cases hv3; rfl
   subst he
   have hz : rd (T1 ++ [0]) (0 + (T1.length : Int)) = 0 := by
    have := hM.last
    rw [show 0 + (T1.length : Int) = ((T1 ++ [(0 : Int)]).length : Int) - 1 by omega]
    exact this
   have hag := fv_again hT hM ha _ _ _ _ _ _ _ 0 (by omega) hk.2 hv hv2 (hold_all T1) (by rw [hz]; unfold numC isDig; omega)
   rw [show off ind1 0 .val = 0 from rfl, Int.natCast_zero, Int.add_zero, Int.zero_add] at hag
   have hok := fv_ok (q := fun s => s) hM _ _ _ _ _ _ (by omega) (by omega) hag
   have sk0 := skp_same hM (y := 0) (by omega) (by omega) (fv_nb hag).1
   have hmo := fv_more hM _ (2 * (T1 ++ [(0 : Int)]).length + 1) _ _ _ _ _ (by omega) (by omega) hag (by omega)
   unfold fj
   rw [sk0, hmo]
   simp only
   rw [Int.zero_add] at hz
   rw [skp_same hM (by omega) (by omega) (by rw [hz]; decide), if_pos (by omega)]
  ·cases h2
 ·cases h
end
end Go.Proofs.YtbikiibpjdiaaaaDoor.Err
/- What was written: its bytes, how much it is. -/
namespace Go.Proofs.YtbikiibpjdiaaaaDoor.Err
open Go.RowKit Go.Proofs.YtbikiibpjdiaaaaDoorW.PrintWords Go.Proofs.YtbikiibpjdiaaaaDoorW.PrintLast Go.Proofs.YtbikiibpjdiaaaaDoorW.PrintMore
open Go.Proofs.YtbikiibpjdiaaaaDoor.Dig Go.Proofs.YtbikiibpjdiaaaaDoor.Tab
set_option linter.unusedVariables false
def Byte (c : Int) : Prop := 0 ≤ c ∧ c < 256
def Bytes_ (l : List Int) : Prop := ∀ c ∈ l, Byte c
section
variable {q : ByteArray → ByteArray} {L M T U : List Int} {x y e c : Int} {esc : Bool} {ind : Ind}
theorem Bytes_.app (h : Bytes_ T) (h2 : Bytes_ U) : Bytes_ (T ++ U) := fun c hc => by
 rcases List.mem_append.1 hc with h3 | h3
 ·exact h c h3
 ·exact h2 c h3
theorem Bytes_.cons (h : Byte c) (h2 : Bytes_ U) : Bytes_ (c :: U) := Bytes_.app (T := [c]) (fun d hd => by rw [List.mem_singleton.1 hd]; exact h) h2
theorem bytes_nil : Bytes_ [] := fun c hc => by cases hc
theorem byte_rd (hT : Txt L) (h0 : 0 ≤ x) (h1 : x < L.length) : Byte (rd L x) := hT.bytes x h0 h1
theorem byte_hx (h0 : 0 ≤ c) (h1 : c < 16) : Byte (hx c) := by unfold hx Byte; split <;> omega
theorem ew_bytes (hT : Txt L) (he : e < L.length) : ∀ (n : Nat) (x : Int), 0 ≤ x → Bytes_ (ew L esc e n x) := by
 intro n
 induction n with
 | zero => intro x h0; exact bytes_nil
 | succ n ih =>
  intro x h0
  unfold ew
  split
  ·rename_i h
   have hb := byte_rd hT h0 (by omega)
   split
   ·refine Bytes_.app ?_ (ih _ (by omega))
    unfold Byte at hb
    exact .cons (by unfold Byte; omega) (.cons (by unfold Byte; omega) (.cons (by unfold Byte; omega) (.cons (by unfold Byte; omega) (.cons (byte_hx (by omega) (by omega)) (.cons (byte_hx (by omega) (by omega)) bytes_nil)))))
   split
   ·rename_i hl
    have hb2 := byte_rd hT (x := x + 2) (by omega) (by have := hl.2.2.1; omega)
    refine Bytes_.app ?_ (ih _ (by omega))
    unfold Byte at hb2
    exact .cons (by unfold Byte; omega) (.cons (by unfold Byte; omega) (.cons (by unfold Byte; omega) (.cons (by unfold Byte; omega) (.cons (by unfold Byte; omega) (.cons (byte_hx (by omega) (by omega)) bytes_nil)))))
   ·exact .cons hb (ih _ (by omega))
  ·exact bytes_nil
theorem fstr_bytes (hT : Txt L) (h0 : 0 ≤ x) (h1 : x < L.length) (hq : rd L x = 34) (h : fstr L esc x = some (e, T)) : Bytes_ T := by
 have hin := hT.inside h0 h1 (by omega)
 have hok := fstr_ok (q := fun s => s) hT h0 (by omega) h
 rw [fstr_ew hT h0 h1 hq h]
 exact ew_bytes hT hok.2.1 _ _ h0
theorem flit_bytes {l : List Int} (hT : Txt L) (h : flit L x l = some (e, T)) : Bytes_ T := by
 unfold flit at h
 split at h
 ·rename_i hs
  cases h
  rw [← hs]
  exact seg_bytes hT _ _
 ·cases h
theorem fnum_bytes (hT : Txt L) (h : fnum L x = some (e, T)) : Bytes_ T := by
 unfold fnum at h
 split at h
 ·cases h
  exact seg_bytes hT _ _
 ·cases h
theorem fv_bytes (hT : Txt L) (hi : ∀ d, Bytes_ (nl ind d)) : ∀ (n : Nat) (md : Md) (x : Int) (d : Nat) (e : Int) (T : List Int), 0 ≤ x → x < L.length → fv L esc ind n md x d = some (e, T) → Bytes_ T := by
 have hcb : Bytes_ (cb ind) := by
  cases ind with
  | none => exact bytes_nil
  | some p => exact .cons (by unfold Byte; omega) bytes_nil
 have one : ∀ c : Int, 0 ≤ c → c < 256 → Byte c := fun c a b => ⟨a, b⟩
 intro n
 induction n with
 | zero => intro md x d e T h0 h1 h; cases h
 | succ n ih =>
  intro md x d e T h0 h1 h
  cases md with
  | val =>
   rw [fv_val] at h
   split at h
   ·rename_i c
    have hin := hT.inside h0 h1 (by omega)
    have hk := skp_ge hT (x := x + 1) (by omega) (by omega)
    split at h
    ·cases h
    split at h
    ·cases h
     exact .cons (one _ (by decide) (by decide)) (.cons (one _ (by decide) (by decide)) bytes_nil)
    obtain ⟨r, hr, he⟩ := Option.map_eq_some_iff.1 h
    cases he
    exact .cons (one _ (by decide) (by decide)) (ih _ _ _ r.1 r.2 (by omega) hk.2 hr)
   split at h
   ·rename_i c
    have hin := hT.inside h0 h1 (by omega)
    have hk := skp_ge hT (x := x + 1) (by omega) (by omega)
    split at h
    ·cases h
    split at h
    ·cases h
     exact .cons (one _ (by decide) (by decide)) (.cons (one _ (by decide) (by decide)) bytes_nil)
    obtain ⟨r, hr, he⟩ := Option.map_eq_some_iff.1 h
    cases he
    exact .cons (one _ (by decide) (by decide)) (ih _ _ _ r.1 r.2 (by omega) hk.2 hr)
   split at h
   ·rename_i c; exact fstr_bytes hT h0 h1 c h
   split at h
   ·exact flit_bytes hT h
   split at h
   ·exact flit_bytes hT h
   split at h
   ·exact flit_bytes hT h
   split at h
   ·exact fnum_bytes hT h
   ·cases h
  | key =>
   rw [fv_key] at h
   split at h
   ·rename_i c
    have hin := hT.inside h0 h1 (by omega)
    split at h
    ·cases h
    ·rename_i e1 T1 hs
     have hso := fstr_ok (q := fun s => s) hT h0 (by omega) hs
     have hk1 := skp_ge hT (x := e1) (by omega) hso.2.1
     have b1 := fstr_bytes hT h0 h1 c hs
     split at h
     ·rename_i c58
      have hin2 := hT.inside (x := skp L e1) (by omega) hk1.2 (by omega)
      have hk2 := skp_ge hT (x := skp L e1 + 1) (by omega) (by omega)
      split at h
      ·cases h
      ·rename_i e2 V hv
       have hvo := fv_ok (q := fun s => s) hT _ _ _ _ _ _ (by omega) hk2.2 hv
       have hk3 := skp_ge hT (x := e2) (by omega) hvo.2.1
       have b2 := ih _ _ _ _ _ (by omega) hk2.2 hv
       split at h
       ·rename_i c44
        have hin3 := hT.inside (x := skp L e2) (by omega) hk3.2 (by omega)
        have hk4 := skp_ge hT (x := skp L e2 + 1) (by omega) (by omega)
        obtain ⟨r, hr, he⟩ := Option.map_eq_some_iff.1 h
        cases he
        exact ((hi d).app b1).app (.cons (one _ (by decide) (by decide)) ((hcb.app b2).app (.cons (one _ (by decide) (by decide)) (ih _ _ _ r.1 r.2 (by omega) hk4.2 hr))))
       split at h
       ·cases h
        exact ((hi d).app b1).app (.cons (one _ (by decide) (by decide)) (((hcb.app b2).app (hi (d - 1))).app (.cons (one _ (by decide) (by decide)) bytes_nil)))
       ·cases h
     ·cases h
   ·cases h
  | item =>
   rw [fv_item] at h
   split at h
   ·cases h
   ·rename_i e2 V hv
    have hvo := fv_ok (q := fun s => s) hT _ _ _ _ _ _ h0 h1 hv
    have hk3 := skp_ge hT (x := e2) (by omega) hvo.2.1
    have b2 := ih _ _ _ _ _ h0 h1 hv
    split at h
    ·rename_i c44
     have hin3 := hT.inside (x := skp L e2) (by omega) hk3.2 (by omega)
     have hk4 := skp_ge hT (x := skp L e2 + 1) (by omega) (by omega)
     obtain ⟨r, hr, he⟩ := Option.map_eq_some_iff.1 h
     cases he
     exact ((hi d).app b2).app (.cons (one _ (by decide) (by decide)) (ih _ _ _ r.1 r.2 (by omega) hk4.2 hr))
    split at h
    ·cases h
     exact (((hi d).app b2).app (hi (d - 1))).app (.cons (one _ (by decide) (by decide)) bytes_nil)
    ·cases h
theorem fj_bytes (hT : Txt L) (hi : ∀ d, Bytes_ (nl ind d)) (h : fj L esc ind = some (e, T)) : Bytes_ T := by
 have hpos := hT.pos
 have hk := skp_ge hT (x := 0) (by omega) (by omega)
 unfold fj at h
 split at h
 ·cases h
 rename_i e1 T1 hv
 split at h
 ·cases h
  exact fv_bytes hT hi _ _ _ _ _ _ (by omega) hk.2 hv
 ·cases h
theorem cw_len (hT : Txt L) : ∀ (n : Nat) (x : Int), 0 ≤ x → x ≤ L.length → ((cw q L esc n x).length : Int) ≤ 6 * (L.length - x) := by
 intro n
 induction n with
 | zero => intro x h0 h1; unfold cw; simp; omega
 | succ n ih =>
  intro x h0 h1
  unfold cw
  split
  ·split
   ·rename_i hq
    have hb := te_bound (q := q) hT h0 (by omega) hq
    have h2 := ew_len (L := L) (esc := esc) (e := te q L x) L.length x (by omega)
    have h3 := ih (te q L x) (by omega) (by omega)
    rw [List.length_append]
    omega
   split
   ·have := ih (x + 1) (by omega) (by omega); omega
   ·have := ih (x + 1) (by omega) (by omega); rw [List.length_cons]; omega
  ·simp; omega
/-- What is compact is read again to itself. -/
theorem fj_twice {l : List Int} (hby : ∀ y, y ∈ l → 0 ≤ y ∧ y < 256) (hl : l.length ≤ 10000) (h : fj (l ++ [0]) esc none = some (e, T)) :
  Txt (T ++ [0]) ∧ (∀ y, y ∈ T → 0 ≤ y ∧ y < 256) ∧ T.length ≤ 70000000 ∧ fj (T ++ [0]) esc none = some ((T.length : Int), T) := by
 have hT := txt_of hby (by omega)
 have hlen : ((l ++ [(0 : Int)]).length : Int) = l.length + 1 := by rw [List.length_append]; rfl
 have hb := fj_bytes hT (ind := none) (fun d => bytes_nil) h
 have hc := fj_cw (q := fun s => s) hT h
 have hn := cw_len (q := fun s => s) (esc := esc) hT (l ++ [(0 : Int)]).length 0 (by omega) (by omega)
 rw [hc] at hn
 have hM := txt_of (l := T) hb (by omega)
 exact ⟨hM, hb, by omega, fj_again hT hM (fun p i h => by cases h) h h⟩
end
end Go.Proofs.YtbikiibpjdiaaaaDoor.Err
