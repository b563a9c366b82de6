/- What the scanner tells of a text, byte by byte. -/
import Derived.Test.YtfkagnpdapkaaaaDoorErr3
namespace Go.Proofs.YtfkagnpdapkaaaaDoor.Err
open Go.RowKit Go.Proofs.YtfkagnpdapkaaaaDoorW.PrintWords Go.Proofs.YtfkagnpdapkaaaaDoorW.PrintLast Go.Proofs.YtfkagnpdapkaaaaDoorW.PrintMore
set_option linter.unusedVariables false
/-- What comes behind a value. -/
def contO (q : ByteArray → ByteArray) (L : List Int) (st : List Br) (e : Int) : Out :=
  if isAll (closed st).1 = true then .done e else out q L (closed st).1 (closed st).2 e
/-- A buffer's text: the last byte is a nought. -/
structure Txt (L : List Int) : Prop where
  pos : 0 < L.length
  last : rd L (L.length - 1) = 0
  small : L.length ≤ 10001
  bytes : ∀ i : Int, 0 ≤ i → i < L.length → 0 ≤ rd L i ∧ rd L i < 256
theorem Buf.txt {w : World} {ad : Addr} {c : Nat} {L : List Int} (h : Buf w ad c L) : Txt L := ⟨h.pos, h.last, h.small, fun i h0 h1 => h.byte i h0 h1⟩
theorem step_dig (q : ByteArray → ByteArray) (c : Int) (k : Nat) (st : List Br) : step q c (.dig k) st = if isHex c then .ok (if k + 1 = 4 then .text else .dig (k + 1), st) else .error (badWords q c wHex, false) := rfl
theorem step_word (q : ByteArray → ByteArray) (c : Int) (l : List Int) (k : Nat) (st : List Br) : step q c (.word l k) st = if c = l.getD k 0 then .ok (if k + 1 = l.length then closed st else (.word l (k + 1), st)) else .error (badWords q c (litWhat q l k), false) := rfl
section
variable {q : ByteArray → ByteArray} {L : List Int} {st : List Br} {x : Int}
theorem Txt.inside (hT : Txt L) (h0 : 0 ≤ x) (h1 : x < L.length) (hn : rd L x ≠ 0) : x < (L.length : Int) - 1 := by
  by_cases h : x = (L.length : Int) - 1
  · exfalso
    rw [h] at hn
    exact hn hT.last
  · omega
/-- A step that goes on. -/
theorem out_step {ph ph' : Ph} {st' : List Br} (h0 : 0 ≤ x) (h1 : x < (L.length : Int) - 1) (hs : step q (rd L x) ph st = .ok (ph', st')) (ha : isAll ph' = false) : out q L ph st x = out q L ph' st' (x + 1) := by
  rw [out_at q L ph st x h0 h1, hs]
  simp only [ha]
  rfl
theorem out_err {ph : Ph} {m : ByteArray × Bool} (h0 : 0 ≤ x) (h1 : x < (L.length : Int) - 1) (hs : step q (rd L x) ph st = .error m) (he : ender ph st = false) : out q L ph st x = .fault ⟨m.1, x + 1, false, if m.2 = true then x + 1 else 0⟩ := by
  rw [out_at q L ph st x h0 h1, hs]
  simp only [he]
  rfl
/-- A step that ends a value. -/
theorem out_close {ph : Ph} (h0 : 0 ≤ x) (h1 : x < (L.length : Int) - 1) (hs : step q (rd L x) ph st = .ok (closed st)) (he : ender ph st = false) : out q L ph st x = contO q L st (x + 1) := by
  rw [out_at q L ph st x h0 h1, hs]
  simp only [he]
  rfl
theorem out_stop {ph : Ph} (hT : Txt L) (h1 : x = (L.length : Int) - 1) (he : ender ph st = false) : out q L ph st x = .fault (endF q ph st x) := by
  rw [out_end q L ph st x h1 hT.pos, he]
  rfl
theorem txt_quote (hT : Txt L) (h0 : 0 ≤ x) (h1 : x < L.length) (hc : rd L x = 34) : out q L .text st x = contO q L st (x + 1) :=
  out_close h0 (hT.inside h0 h1 (by omega)) (by rw [hc]; rfl) rfl
theorem txt_low (hT : Txt L) (h0 : 0 ≤ x) (h1 : x < L.length) (hc : rd L x < 32) : out q L .text st x = .fault (faultAt q L x 6) := by
  by_cases h : x = (L.length : Int) - 1
  · rw [out_stop hT h rfl]
    unfold faultAt
    rw [if_pos h]
    rfl
  · rw [out_err (m := (badWords q (rd L x) wString, false)) h0 (by omega) (by unfold step; rw [if_neg (by omega), if_neg (by omega), if_pos hc]) rfl]
    unfold faultAt
    rw [if_neg h]
    rfl
theorem txt_bs (hT : Txt L) (h0 : 0 ≤ x) (h1 : x < L.length) (hc : rd L x = 92) : out q L .text st x = out q L .esc st (x + 1) ∧ x + 1 < L.length := by
  have := hT.inside h0 h1 (by omega)
  exact ⟨out_step h0 this (by rw [hc]; rfl) rfl, by omega⟩
theorem txt_other (hT : Txt L) (h0 : 0 ≤ x) (h1 : x < L.length) (hc : ¬ rd L x < 32) (h3 : rd L x ≠ 34) (h4 : rd L x ≠ 92) : out q L .text st x = out q L .text st (x + 1) ∧ x + 1 < L.length := by
  have := hT.inside h0 h1 (by omega)
  exact ⟨out_step h0 this (by unfold step; rw [if_neg h3, if_neg h4, if_neg hc]) rfl, by omega⟩
theorem esc_ok (hT : Txt L) (h0 : 0 ≤ x) (h1 : x < L.length) (hc : isEsc (rd L x)) : out q L .esc st x = out q L .text st (x + 1) ∧ x + 1 < L.length := by
  have := hT.inside h0 h1 (by unfold isEsc at hc; omega)
  exact ⟨out_step h0 this (by unfold step; rw [if_pos hc]) rfl, by omega⟩
theorem esc_u (hT : Txt L) (h0 : 0 ≤ x) (h1 : x < L.length) (hc : rd L x = 117) : out q L .esc st x = out q L (.dig 0) st (x + 1) ∧ x + 1 < L.length := by
  have := hT.inside h0 h1 (by omega)
  exact ⟨out_step h0 this (by rw [hc]; rfl) rfl, by omega⟩
theorem esc_bad (hT : Txt L) (h0 : 0 ≤ x) (h1 : x < L.length) (hc : ¬ isEsc (rd L x)) (hu : rd L x ≠ 117) : out q L .esc st x = .fault (scalarF q L x wEscape) := by
  unfold scalarF
  by_cases h : x = (L.length : Int) - 1
  · rw [out_stop hT h rfl, if_pos h]
    rfl
  · rw [out_err (m := (badWords q (rd L x) wEscape, false)) h0 (by omega) (by unfold step; rw [if_neg hc, if_neg hu]) rfl, if_neg h]
    rfl
theorem dig_ok {k : Nat} (hT : Txt L) (h0 : 0 ≤ x) (h1 : x < L.length) (hc : isHex (rd L x)) : out q L (.dig k) st x = out q L (if k + 1 = 4 then .text else .dig (k + 1)) st (x + 1) ∧ x + 1 < L.length := by
  have := hT.inside h0 h1 (by unfold isHex isDig at hc; omega)
  exact ⟨out_step h0 this (by rw [step_dig, if_pos hc]) (by split <;> rfl), by omega⟩
theorem dig_bad {k : Nat} (hT : Txt L) (h0 : 0 ≤ x) (h1 : x < L.length) (hc : ¬ isHex (rd L x)) : out q L (.dig k) st x = .fault (scalarF q L x wHex) := by
  unfold scalarF
  by_cases h : x = (L.length : Int) - 1
  · rw [out_stop hT h rfl, if_pos h]
    unfold endF
    rw [step_dig, if_neg (by decide)]
  · rw [out_err (m := (badWords q (rd L x) wHex, false)) h0 (by omega) (by rw [step_dig, if_neg hc]) rfl, if_neg h]
    rfl
/-- What comes of a text does not turn on what is open. -/
def thenO (q : ByteArray → ByteArray) (L : List Int) (st : List Br) : Out → Out
  | .done e => contO q L st e
  | .fault s => .fault s
end
end Go.Proofs.YtfkagnpdapkaaaaDoor.Err
