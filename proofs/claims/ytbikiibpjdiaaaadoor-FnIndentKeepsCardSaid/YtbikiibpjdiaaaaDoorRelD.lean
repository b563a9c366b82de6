/- What is indented by white space, read again: how much it is, and to what it is read. -/
import Derived.Test.YtbikiibpjdiaaaaDoorFR
namespace Go.Proofs.YtbikiibpjdiaaaaDoor.Err
open Go.RowKit Go.Proofs.YtbikiibpjdiaaaaDoorW.PrintWords Go.Proofs.YtbikiibpjdiaaaaDoorW.PrintLast Go.Proofs.YtbikiibpjdiaaaaDoorW.PrintMore
open Go.Proofs.YtbikiibpjdiaaaaDoor.Dig Go.Proofs.YtbikiibpjdiaaaaDoor.Tab
set_option linter.unusedVariables false
section
variable {q : ByteArray → ByteArray} {L M T U : List Int} {x y e c : Int} {esc : Bool} {ind : Ind}
theorem nl_le2 (h : IndOk ind) (d : Nat) (hd : d ≤ 2001) : (nl ind d).length ≤ 16025 := by
 cases ind with
 | none => simp [nl]
 | some q =>
  obtain ⟨p, i⟩ := q
  obtain ⟨h1, h2⟩ := h p i rfl
  rw [nl_len]
  have : d * i.length ≤ 2001 * 8 := Nat.mul_le_mul hd h2
  omega
theorem fv_len2 (hT : Txt L) (hL : L.length ≤ 2001) (hi : IndOk ind) : ∀ (n : Nat) (md : Md) (x : Int) (d : Nat) (e : Int) (T : List Int), 0 ≤ x → x < L.length → (d : Int) ≤ x → fv L esc ind n md x d = some (e, T) → (T.length : Int) ≤ 33000 * (e - x) := by
 intro n
 induction n with
 | zero => intro md x d e T h0 h1 hd h; cases h
 | succ n ih =>
  intro md x d e T h0 h1 hd h
  have hok := fv_ok (q := fun s => s) hT (n + 1) md x d e T h0 h1 h
  cases md with
  | val =>
   unfold fv at h
   split at h
   ·rename_i hc
    have hin := hT.inside h0 h1 (by omega)
    have hk := skp_ge hT (x := x + 1) (by omega) (by omega)
    split at h
    ·cases h
    rename_i hdp
    split at h
    ·cases h
     simp
     omega
    ·obtain ⟨⟨e1, T1⟩, hr, he⟩ := Option.map_eq_some_iff.1 h
     simp only [Prod.mk.injEq] at he
     obtain ⟨rfl, rfl⟩ := he
     have h2 := ih .key _ _ _ _ (by omega) hk.2 (by omega) hr
     rw [List.length_cons]
     omega
   split at h
   ·rename_i hc
    have hin := hT.inside h0 h1 (by omega)
    have hk := skp_ge hT (x := x + 1) (by omega) (by omega)
    split at h
    ·cases h
    rename_i hdp
    split at h
    ·cases h
     simp
     omega
    ·obtain ⟨⟨e1, T1⟩, hr, he⟩ := Option.map_eq_some_iff.1 h
     simp only [Prod.mk.injEq] at he
     obtain ⟨rfl, rfl⟩ := he
     have h2 := ih .item _ _ _ _ (by omega) hk.2 (by omega) hr
     rw [List.length_cons]
     omega
   split at h
   ·rename_i hc
    have hin := hT.inside h0 h1 (by omega)
    have := fstr_len hT h0 (by omega) h
    omega
   split at h
   ·have := flit_len h; omega
   split at h
   ·have := flit_len h; omega
   split at h
   ·have := flit_len h; omega
   split at h
   ·rename_i hc
    have hn := fnum_ok (q := fun s => s) hT h0 h1 hc h
    rw [hn.2.2.1, seg_len x e h0 (by omega) (by omega)]
    omega
   ·cases h
  | key =>
   unfold fv at h
   split at h
   ·rename_i hc
    have hin := hT.inside h0 h1 (by omega)
    split at h
    ·cases h
    rename_i e1 T1 hs1
    have hs := fstr_ok (q := fun s => s) hT h0 (by omega) hs1
    have hsl := fstr_len hT h0 (by omega) hs1
    have hk := skp_ge hT (x := e1) (by omega) hs.2.1
    split at h
    ·rename_i hc2
     have hin2 := hT.inside (x := skp L e1) (by omega) hk.2 (by omega)
     have hk2 := skp_ge hT (x := skp L e1 + 1) (by omega) (by omega)
     split at h
     ·cases h
     rename_i e2 T2 hv2
     have h2 := fv_ok (q := fun s => s) hT _ _ _ _ _ _ (by omega) hk2.2 hv2
     have h2l := ih .val _ _ _ _ (by omega) hk2.2 (by omega) hv2
     have hk3 := skp_ge hT (x := e2) (by omega) h2.2.1
     have hn1 := nl_le2 hi d (by omega)
     have hn2 := nl_le2 hi (d - 1) (by omega)
     have hcb := cb_le (ind := ind)
     split at h
     ·rename_i hc3
      obtain ⟨⟨e3, T3⟩, hr, he⟩ := Option.map_eq_some_iff.1 h
      simp only [Prod.mk.injEq] at he
      obtain ⟨rfl, rfl⟩ := he
      have hin3 := hT.inside (x := skp L e2) (by omega) hk3.2 (by omega)
      have hk4 := skp_ge hT (x := skp L e2 + 1) (by omega) (by omega)
      have h4 := ih .key _ _ _ _ (by omega) hk4.2 (by omega) hr
      simp only [List.length_append, List.length_cons]
      omega
     split at h
     ·cases h
      simp only [List.length_append, List.length_cons, List.length_nil]
      omega
     ·cases h
    ·cases h
   ·cases h
  | item =>
   unfold fv at h
   split at h
   ·cases h
   rename_i e1 T1 hv1
   have h2 := fv_ok (q := fun s => s) hT _ _ _ _ _ _ h0 h1 hv1
   have h2l := ih .val _ _ _ _ h0 h1 (by omega) hv1
   have hk3 := skp_ge hT (x := e1) (by omega) h2.2.1
   have hn1 := nl_le2 hi d (by omega)
   have hn2 := nl_le2 hi (d - 1) (by omega)
   split at h
   ·rename_i hc3
    obtain ⟨⟨e3, T3⟩, hr, he⟩ := Option.map_eq_some_iff.1 h
    simp only [Prod.mk.injEq] at he
    obtain ⟨rfl, rfl⟩ := he
    have hin3 := hT.inside (x := skp L e1) (by omega) hk3.2 (by omega)
    have hk4 := skp_ge hT (x := skp L e1 + 1) (by omega) (by omega)
    have h4 := ih .item _ _ _ _ (by omega) hk4.2 (by omega) hr
    simp only [List.length_append, List.length_cons]
    omega
   split at h
   ·cases h
    simp only [List.length_append, List.length_cons, List.length_nil]
    omega
   ·cases h
theorem fj_len2 (hT : Txt L) (hL : L.length ≤ 2001) (hi : IndOk ind) (h : fj L esc ind = some (e, T)) : T.length ≤ 66033000 := by
 have hpos := hT.pos
 have hk := skp_ge hT (x := 0) (by omega) (by omega)
 unfold fj at h
 split at h
 ·cases h
 rename_i e1 T1 hv
 have hok := fv_ok (q := fun s => s) hT _ _ _ _ _ _ (by omega) hk.2 hv
 have hl := fv_len2 hT hL hi _ _ _ _ _ _ (by omega) hk.2 (by omega) hv
 split at h
 ·cases h
  omega
 ·cases h
/-- Spaces. -/
structure Spaces (s : ByteArray) : Prop where
 len : s.size ≤ 8
 all : ∀ c ∈ sb s, c = 32
theorem Spaces.airy {s : ByteArray} (h : Spaces s) : Airy (some ([], sb s)) := fun p i e => by
 cases e
 exact ⟨fun c hc => (by cases hc), fun c hc => by rw [h.all c hc]; decide⟩
theorem Spaces.ok {s : ByteArray} (h : Spaces s) : IndOk (some ([], sb s)) := fun p i e => by
 cases e
 exact ⟨by simp, by rw [sb_len]; exact h.len⟩
theorem nl_bytes (h : Airy ind) (d : Nat) : Bytes_ (nl ind d) := fun c hc => by
 have := nl_airy h d c hc
 unfold isBlank at this
 unfold Byte
 omega
/-- What is indented by white space is indented again to itself, and made compact to what the value itself is made compact to. -/
theorem fj_keep {l : List Int} {s : ByteArray} (hs : Spaces s) (hby : ∀ y, y ∈ l → 0 ≤ y ∧ y < 256) (hl : l.length ≤ 2000) (h : fj (l ++ [0]) false (some ([], sb s)) = some (e, T)) :
  Txt (T ++ [0]) ∧ (∀ y, y ∈ T → 0 ≤ y ∧ y < 256) ∧ T.length ≤ 70000000 ∧ fj (T ++ [0]) false (some ([], sb s)) = some ((T.length : Int), T) ∧
  ∃ e2 T2, fj (l ++ [0]) false none = some (e2, T2) ∧ fj (T ++ [0]) false none = some ((T.length : Int), T2) := by
 have hT := txt_of hby (by omega)
 have hlen : (l ++ [(0 : Int)]).length = l.length + 1 := by rw [List.length_append]; rfl
 have hb := fj_bytes hT (ind := some ([], sb s)) (fun d => nl_bytes hs.airy d) h
 have hn := fj_len2 hT (by omega) hs.ok h
 have hM := txt_of (l := T) hb (by omega)
 refine ⟨hM, hb, by omega, fj_again hT hM hs.airy h h, ?_⟩
 have h2 := h
 unfold fj at h2
 split at h2
 ·cases h2
 rename_i e1 T1 hv
 obtain ⟨T3, hv3⟩ := fv_ends none _ _ _ _ _ _ hv
 split at h2
 ·rename_i hc
  have hf : fj (l ++ [0]) false none = some (e1, T3) := by
   unfold fj
   rw [hv3]
   simp only
   rw [if_pos hc]
  exact ⟨e1, T3, hf, fj_again hT hM hs.airy h hf⟩
 ·cases h2
end
end Go.Proofs.YtbikiibpjdiaaaaDoor.Err
