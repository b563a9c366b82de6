/- The scanner of texts, as plain Lean, for the formats' seat (joined by strip.py). -/
import Derived.Test.YtbikiibpjdiaaaaDoorTz
import Derived.Laws.Cover4
import Derived.Test.YtbikiibpjdiaaaaDoorFA
namespace Go.Proofs.YtbikiibpjdiaaaaDoor.Err
open Go.RowKit Go.Proofs.YtbikiibpjdiaaaaDoorW.PrintWords Go.Proofs.YtbikiibpjdiaaaaDoorW.PrintLast Go.Proofs.YtbikiibpjdiaaaaDoorW.PrintMore
open Go.Proofs.YtbikiibpjdiaaaaDoor.Tab
set_option linter.unusedVariables false
/-- A syntax error: its words, its offset, whether it tells the end, and the place of a byte that begins no value, plus one. -/
structure SE where
 msg : ByteArray
 off : Int
 atEnd : Bool
 va : Int
/-- A pointer's block is this syntax error. -/
def PT (w : World) (g : Nat) (s : SE) : Prop := w.heap[g]? = some (.cells #[.string s.msg, .int .i64 s.off, .bool s.atEnd, .int .i64 s.va] 89 (0, 0))
/-- A value is an error that is this syntax error. -/
def EV (w : World) (v : Value) (s : SE) : Prop := ∃ g, v = .iface 86 (.pointer (some ⟨g, 0, none⟩)) ∧ PT w g s
theorem blk_lt' {w : World} {g : Nat} {o : Obj} (h : w.heap[g]? = some o) : g < w.heap.size := (Array.getElem?_eq_some_iff.1 h).1
theorem PT.below {w w' : World} {g : Nat} {s : SE} (h : PT w g s) (hb : Below w.heap.size w w') : PT w' g s := by
 unfold PT at h ⊢
 rw [hb.block g (blk_lt' h)]; exact h
theorem EV.below {w w' : World} {v : Value} {s : SE} (h : EV w v s) (hb : Below w.heap.size w w') : EV w' v s := by
 obtain ⟨g, e, hp⟩ := h
 exact ⟨g, e, hp.below hb⟩
/-- What a maker of pointers answers. -/
def GivesP (w : World) (s : SE) (e : Ending) (w' : World) : Prop := ∃ g, e = .returned (.pointer (some ⟨g, 0, none⟩)) ∧ w.heap.size ≤ g ∧ PT w' g s ∧ Below w.heap.size w w'
/-- What a maker of errors answers. -/
def Gives (w : World) (s : SE) (e : Ending) (w' : World) : Prop := ∃ v, e = .returned v ∧ EV w' v s ∧ Below w.heap.size w w'
/-- The words for the end of a text. -/
def endWords : ByteArray := ⟨#[117, 110, 101, 120, 112, 101, 99, 116, 101, 100, 32, 101, 110, 100, 32, 111, 102, 32, 74, 83, 79, 78, 32, 105, 110, 112, 117, 116]⟩
/-- What all walks stand on: the tables, and that strconv.Quote answers one function of its text, of two bytes or more. -/
structure G (q : ByteArray → ByteArray) (w : World) : Prop where
 tab : Glob w
 two : ∀ s, 2 ≤ (q s).size
 low : ∀ c, 0 ≤ c → c < 256 → (q (Utf8.encode c)).size ≤ 1000
 sp : q (Utf8.encode 32) = ⟨#[34, 32, 34]⟩
 quote : ∀ s w', s.size ≤ 100 → Below w.heap.size w w' → Calls Tryd.prog 72 #[.string s] w' fun e w'' => e = .returned (.string (q s)) ∧ Below w'.heap.size w' w''
theorem G.below {q : ByteArray → ByteArray} {w w' : World} (h : G q w) (hb : Below w.heap.size w w') : G q w' :=
 ⟨h.tab.below hb, h.two, h.low, h.sp, fun s w2 hs h2 => h.quote s w2 hs (below_step hb h2)⟩

/-- A byte between quotes, as the faults tell it. -/
def quoted (q : ByteArray → ByteArray) (c : Int) : ByteArray :=
 if c = 39 then ⟨#[39, 92, 39, 39]⟩ else if c = 34 then ⟨#[39, 34, 39]⟩ else ⟨#[39]⟩ ++ (q (Utf8.encode c)).extract 1 ((q (Utf8.encode c)).size - 1) ++ ⟨#[39]⟩
theorem G.drewN {q : ByteArray → ByteArray} {w : World} (h : G q w) (n : Nat) : G q (w.drewN n) := h.below (pw_below_drewN (Below.refl _ _) n)
/-- What lies below stays so when what came after is drawn ahead. -/
theorem belowD {w w' : World} {n : Nat} (h : Below (w.drewN n).heap.size (w.drewN n) w') : Below w.heap.size w w' := below_step (pw_below_drewN (Below.refl _ _) n) h
theorem quoted_size (q : ByteArray → ByteArray) (c : Int) (w : World) (hG : G q w) (h0 : 0 ≤ c) (h1 : c < 256) : (quoted q c).size ≤ 2000 := by
 have h2 := hG.low c h0 h1
 unfold quoted
 split
 ·decide
 split
 ·decide
 ·simp only [ByteArray.size_append, ByteArray.size_extract]
  have : (⟨#[39]⟩ : ByteArray).size = 1 := rfl
  omega
/-- The bytes behind a buffer's address: a text and a nought behind it. -/
structure Buf (w : World) (ad : Addr) (c : Nat) (L : List Int) : Prop where
 C : Kd.C (Kd.int .u8) w (some ad) L.length L
 cap : L.length ≤ c
 bytes : ∀ x, x ∈ L → 0 ≤ x ∧ x < 256
 pos : 0 < L.length
 small : L.length ≤ 70000001
 last : rd L (L.length - 1) = 0
section
variable {w w' : World} {ad : Addr} {c : Nat} {L : List Int}
theorem Buf.below (h : Buf w ad c L) (hb : Below w.heap.size w w') : Buf w' ad c L := ⟨Kd.C_below h.C hb, h.cap, h.bytes, h.pos, h.small, h.last⟩
theorem Buf.drewN (h : Buf w ad c L) (n : Nat) : Buf (w.drewN n) ad c L := h.below (pw_below_drewN (Below.refl _ _) n)
theorem Buf.at_ (h : Buf w ad c L) (i : Int) (h0 : 0 ≤ i) (h1 : i < L.length) : w.cell? (ad.add i.toNat) = some (.int .u8 (rd L i)) := by
 obtain ⟨ad', e, hx⟩ := Kd.at_int h.C i h0 h1
 cases e
 exact hx
theorem rd_get (L : List Int) (i : Int) (h0 : 0 ≤ i) (h1 : i < L.length) : ∃ h : i.toNat < L.length, rd L i = L[i.toNat] := by
 have h : i.toNat < L.length := by omega
 refine ⟨h, ?_⟩
 unfold rd
 simp [h]
theorem Buf.byte (h : Buf w ad c L) (i : Int) (h0 : 0 ≤ i) (h1 : i < L.length) : 0 ≤ rd L i ∧ rd L i < 256 := by
 obtain ⟨hh, e⟩ := rd_get L i h0 h1
 rw [e]
 exact h.bytes _ (List.getElem_mem _)
/-- A byte that is no nought is not the last one. -/
theorem Buf.next (h : Buf w ad c L) (i : Int) (h0 : 0 ≤ i) (h1 : i < L.length) (hn : rd L i ≠ 0) : i + 1 < L.length := by
 have := h.last
 by_cases h2 : i + 1 < L.length
 ·exact h2
 ·exfalso
  have : i = L.length - 1 := by omega
  rw [this] at hn
  exact hn h.last
end
abbrev wValue : ByteArray := ⟨#[108, 111, 111, 107, 105, 110, 103, 32, 102, 111, 114, 32, 98, 101, 103, 105, 110, 110, 105, 110, 103, 32, 111, 102, 32, 118, 97, 108, 117, 101]⟩
abbrev wKey : ByteArray := ⟨#[108, 111, 111, 107, 105, 110, 103, 32, 102, 111, 114, 32, 98, 101, 103, 105, 110, 110, 105, 110, 103, 32, 111, 102, 32, 111, 98, 106, 101, 99, 116, 32, 107, 101, 121, 32, 115, 116, 114, 105, 110, 103]⟩
abbrev wAfterKey : ByteArray := ⟨#[97, 102, 116, 101, 114, 32, 111, 98, 106, 101, 99, 116, 32, 107, 101, 121]⟩
abbrev wAfterPair : ByteArray := ⟨#[97, 102, 116, 101, 114, 32, 111, 98, 106, 101, 99, 116, 32, 107, 101, 121, 58, 118, 97, 108, 117, 101, 32, 112, 97, 105, 114]⟩
abbrev wAfterElement : ByteArray := ⟨#[97, 102, 116, 101, 114, 32, 97, 114, 114, 97, 121, 32, 101, 108, 101, 109, 101, 110, 116]⟩
abbrev wAfterTop : ByteArray := ⟨#[97, 102, 116, 101, 114, 32, 116, 111, 112, 45, 108, 101, 118, 101, 108, 32, 118, 97, 108, 117, 101]⟩
abbrev wString : ByteArray := ⟨#[105, 110, 32, 115, 116, 114, 105, 110, 103, 32, 108, 105, 116, 101, 114, 97, 108]⟩
abbrev wNumber : ByteArray := ⟨#[105, 110, 32, 110, 117, 109, 101, 114, 105, 99, 32, 108, 105, 116, 101, 114, 97, 108]⟩
abbrev wFraction : ByteArray := ⟨#[97, 102, 116, 101, 114, 32, 100, 101, 99, 105, 109, 97, 108, 32, 112, 111, 105, 110, 116, 32, 105, 110, 32, 110, 117, 109, 101, 114, 105, 99, 32, 108, 105, 116, 101, 114, 97, 108]⟩
abbrev wExponent : ByteArray := ⟨#[105, 110, 32, 101, 120, 112, 111, 110, 101, 110, 116, 32, 111, 102, 32, 110, 117, 109, 101, 114, 105, 99, 32, 108, 105, 116, 101, 114, 97, 108]⟩
abbrev wEscape : ByteArray := ⟨#[105, 110, 32, 115, 116, 114, 105, 110, 103, 32, 101, 115, 99, 97, 112, 101, 32, 99, 111, 100, 101]⟩
abbrev wHex : ByteArray := ⟨#[105, 110, 32, 92, 117, 32, 104, 101, 120, 97, 100, 101, 99, 105, 109, 97, 108, 32, 99, 104, 97, 114, 97, 99, 116, 101, 114, 32, 101, 115, 99, 97, 112, 101]⟩
abbrev wInvalid : ByteArray := ⟨#[105, 110, 118, 97, 108, 105, 100, 32, 99, 104, 97, 114, 97, 99, 116, 101, 114, 32]⟩
abbrev wBlank : ByteArray := ⟨#[32]⟩
abbrev wBlankEnd : ByteArray := ⟨#[105, 110, 118, 97, 108, 105, 100, 32, 99, 104, 97, 114, 97, 99, 116, 101, 114, 32, 39, 32, 39, 32]⟩
abbrev wLit : ByteArray := ⟨#[105, 110, 32, 108, 105, 116, 101, 114, 97, 108, 32]⟩
abbrev wExp : ByteArray := ⟨#[32, 40, 101, 120, 112, 101, 99, 116, 105, 110, 103, 32]⟩
abbrev wClose : ByteArray := ⟨#[41]⟩
/-- The words that tell where a byte cannot stand. -/
def whereWords (k : Int) : ByteArray :=
 if k = 1 then wKey else if k = 2 then wAfterKey else if k = 3 then wAfterPair else if k = 4 then wAfterElement else if k = 5 then wAfterTop else if k = 6 then wString else if k = 7 then wNumber else if k = 8 then wFraction else if k = 9 then wExponent else wValue
theorem whereWords_size (k : Int) : (whereWords k).size ≤ 100 := by
 unfold whereWords
 repeat' split
 all_goals decide
/-- The words of a byte that cannot stand somewhere. -/
def badWords (q : ByteArray → ByteArray) (c : Int) (what : ByteArray) : ByteArray := wInvalid ++ quoted q c ++ wBlank ++ what
/-- The fault of a byte, or of the end, at a place. -/
def faultAt (q : ByteArray → ByteArray) (L : List Int) (cur k : Int) : SE :=
 if cur = (L.length : Int) - 1 then ⟨endWords, cur, true, 0⟩ else ⟨badWords q (rd L cur) (whereWords k), cur + 1, false, if k = 0 then cur + 1 else 0⟩
/-- A bracket that is open; 'key': an object whose name is read. -/
inductive Br where
 | obj | arr | key
/-- Where the scanner stands. -/
inductive Ph where
 | val | item0 | name0 | name | colon | memb | item | all
 | text | esc | dig (k : Nat)
 | minus | zero | whole | point | frac | e | sign | exp
 | word (l : List Int) (k : Nat)
def isBlank (c : Int) : Prop := c = 32 ∨ c = 9 ∨ c = 10 ∨ c = 13
instance (c : Int) : Decidable (isBlank c) := by unfold isBlank; exact inferInstance
def isDig (c : Int) : Prop := 48 ≤ c ∧ c ≤ 57
instance (c : Int) : Decidable (isDig c) := by unfold isDig; exact inferInstance
def isHex (c : Int) : Prop := isDig c ∨ (97 ≤ c ∧ c ≤ 102) ∨ (65 ≤ c ∧ c ≤ 70)
instance (c : Int) : Decidable (isHex c) := by unfold isHex; exact inferInstance
def isEsc (c : Int) : Prop := c = 98 ∨ c = 102 ∨ c = 110 ∨ c = 114 ∨ c = 116 ∨ c = 92 ∨ c = 47 ∨ c = 34
instance (c : Int) : Decidable (isEsc c) := by unfold isEsc; exact inferInstance
def lTrue : List Int := [116, 114, 117, 101]
def lFalse : List Int := [102, 97, 108, 115, 101]
def lNull : List Int := [110, 117, 108, 108]
def litBytes (l : List Int) : ByteArray := ⟨(l.map fun c => UInt8.ofNat c.toNat).toArray⟩
/-- Behind a value. -/
def closed : List Br → Ph × List Br
 | [] => (.all, [])
 | .key :: r => (.colon, .obj :: r)
 | .obj :: r => (.memb, .obj :: r)
 | .arr :: r => (.item, .arr :: r)
abbrev Step := Except (ByteArray × Bool) (Ph × List Br)
def begin_ (q : ByteArray → ByteArray) (c : Int) (st : List Br) : Step :=
 if c = 123 then .ok (.name0, .obj :: st) else if c = 91 then .ok (.item0, .arr :: st) else if c = 34 then .ok (.text, st) else if c = 45 then .ok (.minus, st)
 else if c = 48 then .ok (.zero, st) else if isDig c then .ok (.whole, st) else if c = 116 then .ok (.word lTrue 1, st) else if c = 102 then .ok (.word lFalse 1, st)
 else if c = 110 then .ok (.word lNull 1, st) else .error (badWords q c wValue, true)
def nameOf (q : ByteArray → ByteArray) (c : Int) (st : List Br) : Step := if c = 34 then .ok (.text, .key :: st.tail) else .error (badWords q c wKey, false)
def between (q : ByteArray → ByteArray) (c : Int) (ph : Ph) (st : List Br) : Step :=
 if isBlank c then .ok (ph, st) else match ph with
 | .val => begin_ q c st
 | .item0 => if c = 93 then .ok (closed st.tail) else begin_ q c st
 | .name0 => if c = 125 then .ok (closed st.tail) else nameOf q c st
 | .name => nameOf q c st
 | .colon => if c = 58 then .ok (.val, st) else .error (badWords q c wAfterKey, false)
 | .memb => if c = 44 then .ok (.name, st) else if c = 125 then .ok (closed st.tail) else .error (badWords q c wAfterPair, false)
 | .item => if c = 44 then .ok (.val, st) else if c = 93 then .ok (closed st.tail) else .error (badWords q c wAfterElement, false)
 | _ => .error (badWords q c wAfterTop, false)
def litWhat (q : ByteArray → ByteArray) (l : List Int) (k : Nat) : ByteArray := wLit ++ litBytes l ++ wExp ++ quoted q (l.getD k 0) ++ wClose
/-- Behind a number that may end. -/
def numMore (q : ByteArray → ByteArray) (c : Int) (ph : Ph) (st : List Br) (dig pt ex : Bool) : Step :=
 if dig = true ∧ isDig c then .ok (ph, st) else if pt = true ∧ c = 46 then .ok (.point, st) else if ex = true ∧ (c = 101 ∨ c = 69) then .ok (.e, st)
 else between q c (closed st).1 (closed st).2
def step (q : ByteArray → ByteArray) (c : Int) (ph : Ph) (st : List Br) : Step :=
 match ph with
 | .text => if c = 34 then .ok (closed st) else if c = 92 then .ok (.esc, st) else if c < 32 then .error (badWords q c wString, false) else .ok (.text, st)
 | .esc => if isEsc c then .ok (.text, st) else if c = 117 then .ok (.dig 0, st) else .error (badWords q c wEscape, false)
 | .dig k => if isHex c then .ok (if k + 1 = 4 then .text else .dig (k + 1), st) else .error (badWords q c wHex, false)
 | .minus => if c = 48 then .ok (.zero, st) else if isDig c then .ok (.whole, st) else .error (badWords q c wNumber, false)
 | .point => if isDig c then .ok (.frac, st) else .error (badWords q c wFraction, false)
 | .e => if c = 43 ∨ c = 45 then .ok (.sign, st) else if isDig c then .ok (.exp, st) else .error (badWords q c wExponent, false)
 | .sign => if isDig c then .ok (.exp, st) else .error (badWords q c wExponent, false)
 | .zero => numMore q c .zero st false true true
 | .whole => numMore q c .whole st true true true
 | .frac => numMore q c .frac st true false true
 | .exp => numMore q c .exp st true false false
 | .word l k => if c = l.getD k 0 then .ok (if k + 1 = l.length then closed st else (.word l (k + 1), st)) else .error (badWords q c (litWhat q l k), false)
 | ph => between q c ph st
def numFinal : Ph → Bool
 | .zero | .whole | .frac | .exp => true
 | _ => false
def isAll : Ph → Bool
 | .all => true
 | _ => false
/-- What comes of a value: its end, or the first fault in it. -/
inductive Out where
 | done (e : Int)
 | fault (s : SE)
/-- May a number end here, at no depth? -/
def ender (ph : Ph) (st : List Br) : Bool := numFinal ph && st.isEmpty
def endF (q : ByteArray → ByteArray) (ph : Ph) (st : List Br) (i : Int) : SE :=
 match step q 32 ph st with
 | .error m => ⟨m.1, i, true, 0⟩
 | .ok _ => ⟨endWords, i, true, 0⟩
def outL (q : ByteArray → ByteArray) : List Int → Ph → List Br → Int → Out
 | [], ph, st, i => if ender ph st = true then .done i else .fault (endF q ph st i)
 | c :: r, ph, st, i =>
  match step q c ph st with
  | .error m => if ender ph st = true then .done i else .fault ⟨m.1, i + 1, false, if m.2 = true then i + 1 else 0⟩
  | .ok s => if isAll s.1 = true then (if ender ph st = true then .done i else .done (i + 1)) else outL q r s.1 s.2 (i + 1)
/-- The same from a place in a buffer. -/
def out (q : ByteArray → ByteArray) (L : List Int) (ph : Ph) (st : List Br) (i : Int) : Out := outL q ((L.take (L.length - 1)).drop i.toNat) ph st i
theorem out_end (q : ByteArray → ByteArray) (L : List Int) (ph : Ph) (st : List Br) (i : Int) (h : i = (L.length : Int) - 1) (hp : 0 < L.length) :
  out q L ph st i = if ender ph st = true then .done i else .fault (endF q ph st i) := by
 unfold out
 rw [List.drop_eq_nil_of_le (by rw [List.length_take]; omega)]
 rfl
theorem out_at (q : ByteArray → ByteArray) (L : List Int) (ph : Ph) (st : List Br) (i : Int) (h0 : 0 ≤ i) (h1 : i < (L.length : Int) - 1) :
  out q L ph st i = match step q (rd L i) ph st with
   | .error m => if ender ph st = true then .done i else .fault ⟨m.1, i + 1, false, if m.2 = true then i + 1 else 0⟩
   | .ok s => if isAll s.1 = true then (if ender ph st = true then .done i else .done (i + 1)) else out q L s.1 s.2 (i + 1) := by
 have hlt : i.toNat < (L.take (L.length - 1)).length := by rw [List.length_take]; omega
 obtain ⟨hh, er⟩ := rd_get L i h0 (by omega)
 have e1 : (L.take (L.length - 1)).drop i.toNat = rd L i :: (L.take (L.length - 1)).drop (i.toNat + 1) := by
  rw [List.drop_eq_getElem_cons hlt, er]
  congr 1
  exact List.getElem_take
 have e2 : (i + 1).toNat = i.toNat + 1 := by omega
 unfold out
 rw [e1, e2]
 rfl
theorem blankWords {q : ByteArray → ByteArray} {w : World} (hG : G q w) (what : ByteArray) : wBlankEnd ++ what = badWords q 32 what := by
 have e : quoted q 32 = ⟨#[39, 32, 39]⟩ := by
  unfold quoted
  rw [if_neg (by decide), if_neg (by decide), hG.sp]
  rfl
 unfold badWords
 rw [e]
 rfl
/-- The fault of a byte in a number, a word or an escape. -/
def scalarF (q : ByteArray → ByteArray) (L : List Int) (cur : Int) (what : ByteArray) : SE :=
 if cur = (L.length : Int) - 1 then ⟨badWords q 32 what, cur, true, 0⟩ else ⟨badWords q (rd L cur) what, cur + 1, false, 0⟩
/-- An escape's fault: behind the backslash, or in the four digits. -/
def escWhat (bs cur : Int) : ByteArray := if cur > bs + 1 then wHex else wEscape
/-- What comes behind a value. -/
def contO (q : ByteArray → ByteArray) (L : List Int) (st : List Br) (e : Int) : Out :=
 if isAll (closed st).1 = true then .done e else out q L (closed st).1 (closed st).2 e
/-- A buffer's text: the last byte is a nought. -/
structure Txt (L : List Int) : Prop where
 pos : 0 < L.length
 last : rd L (L.length - 1) = 0
 small : L.length ≤ 70000001
 bytes : ∀ i : Int, 0 ≤ i → i < L.length → 0 ≤ rd L i ∧ rd L i < 256
theorem Buf.txt {w : World} {ad : Addr} {c : Nat} {L : List Int} (h : Buf w ad c L) : Txt L := ⟨h.pos, h.last, h.small, fun i h0 h1 => h.byte i h0 h1⟩
theorem step_dig (q : ByteArray → ByteArray) (c : Int) (k : Nat) (st : List Br) : step q c (.dig k) st = if isHex c then .ok (if k + 1 = 4 then .text else .dig (k + 1), st) else .error (badWords q c wHex, false) := rfl
theorem step_word (q : ByteArray → ByteArray) (c : Int) (l : List Int) (k : Nat) (st : List Br) : step q c (.word l k) st = if c = l.getD k 0 then .ok (if k + 1 = l.length then closed st else (.word l (k + 1), st)) else .error (badWords q c (litWhat q l k), false) := rfl
section
variable {q : ByteArray → ByteArray} {L : List Int} {st : List Br} {x : Int}
theorem Txt.inside (hT : Txt L) (h0 : 0 ≤ x) (h1 : x < L.length) (hn : rd L x ≠ 0) : x < (L.length : Int) - 1 := by
 by_cases h : x = (L.length : Int) - 1
 ·exfalso
  rw [h] at hn
  exact hn hT.last
 ·omega
/-- A step that goes on. -/
theorem out_step {ph ph' : Ph} {st' : List Br} (h0 : 0 ≤ x) (h1 : x < (L.length : Int) - 1) (hs : step q (rd L x) ph st = .ok (ph', st')) (ha : isAll ph' = false) : out q L ph st x = out q L ph' st' (x + 1) := by
 rw [out_at q L ph st x h0 h1, hs]
 simp only [ha]
 rfl
theorem out_err {ph : Ph} {m : ByteArray × Bool} (h0 : 0 ≤ x) (h1 : x < (L.length : Int) - 1) (hs : step q (rd L x) ph st = .error m) (he : ender ph st = false) : out q L ph st x = .fault ⟨m.1, x + 1, false, if m.2 = true then x + 1 else 0⟩ := by
 rw [out_at q L ph st x h0 h1, hs]
 simp only [he]
 rfl
/-- A step that ends a value. -/
theorem out_close {ph : Ph} (h0 : 0 ≤ x) (h1 : x < (L.length : Int) - 1) (hs : step q (rd L x) ph st = .ok (closed st)) (he : ender ph st = false) : out q L ph st x = contO q L st (x + 1) := by
 rw [out_at q L ph st x h0 h1, hs]
 simp only [he]
 rfl
theorem out_stop {ph : Ph} (hT : Txt L) (h1 : x = (L.length : Int) - 1) (he : ender ph st = false) : out q L ph st x = .fault (endF q ph st x) := by
 rw [out_end q L ph st x h1 hT.pos, he]
 rfl
theorem txt_quote (hT : Txt L) (h0 : 0 ≤ x) (h1 : x < L.length) (hc : rd L x = 34) : out q L .text st x = contO q L st (x + 1) :=
 out_close h0 (hT.inside h0 h1 (by omega)) (by rw [hc]; rfl) rfl
theorem txt_low (hT : Txt L) (h0 : 0 ≤ x) (h1 : x < L.length) (hc : rd L x < 32) : out q L .text st x = .fault (faultAt q L x 6) := by
 by_cases h : x = (L.length : Int) - 1
 ·rw [out_stop hT h rfl]
  unfold faultAt
  rw [if_pos h]
  rfl
 ·rw [out_err (m := (badWords q (rd L x) wString, false)) h0 (by omega) (by unfold step; rw [if_neg (by omega), if_neg (by omega), if_pos hc]) rfl]
  unfold faultAt
  rw [if_neg h]
  rfl
theorem txt_bs (hT : Txt L) (h0 : 0 ≤ x) (h1 : x < L.length) (hc : rd L x = 92) : out q L .text st x = out q L .esc st (x + 1) ∧ x + 1 < L.length := by
 have := hT.inside h0 h1 (by omega)
 exact ⟨out_step h0 this (by rw [hc]; rfl) rfl, by omega⟩
theorem txt_other (hT : Txt L) (h0 : 0 ≤ x) (h1 : x < L.length) (hc : ¬ rd L x < 32) (h3 : rd L x ≠ 34) (h4 : rd L x ≠ 92) : out q L .text st x = out q L .text st (x + 1) ∧ x + 1 < L.length := by
 have := hT.inside h0 h1 (by omega)
 exact ⟨out_step h0 this (by unfold step; rw [if_neg h3, if_neg h4, if_neg hc]) rfl, by omega⟩
theorem esc_ok (hT : Txt L) (h0 : 0 ≤ x) (h1 : x < L.length) (hc : isEsc (rd L x)) : out q L .esc st x = out q L .text st (x + 1) ∧ x + 1 < L.length := by
 have := hT.inside h0 h1 (by unfold isEsc at hc; omega)
 exact ⟨out_step h0 this (by unfold step; rw [if_pos hc]) rfl, by omega⟩
theorem esc_u (hT : Txt L) (h0 : 0 ≤ x) (h1 : x < L.length) (hc : rd L x = 117) : out q L .esc st x = out q L (.dig 0) st (x + 1) ∧ x + 1 < L.length := by
 have := hT.inside h0 h1 (by omega)
 exact ⟨out_step h0 this (by rw [hc]; rfl) rfl, by omega⟩
theorem esc_bad (hT : Txt L) (h0 : 0 ≤ x) (h1 : x < L.length) (hc : ¬ isEsc (rd L x)) (hu : rd L x ≠ 117) : out q L .esc st x = .fault (scalarF q L x wEscape) := by
 unfold scalarF
 by_cases h : x = (L.length : Int) - 1
 ·rw [out_stop hT h rfl, if_pos h]
  rfl
 ·rw [out_err (m := (badWords q (rd L x) wEscape, false)) h0 (by omega) (by unfold step; rw [if_neg hc, if_neg hu]) rfl, if_neg h]
  rfl
theorem dig_ok {k : Nat} (hT : Txt L) (h0 : 0 ≤ x) (h1 : x < L.length) (hc : isHex (rd L x)) : out q L (.dig k) st x = out q L (if k + 1 = 4 then .text else .dig (k + 1)) st (x + 1) ∧ x + 1 < L.length := by
 have := hT.inside h0 h1 (by unfold isHex isDig at hc; omega)
 exact ⟨out_step h0 this (by rw [step_dig, if_pos hc]) (by split <;> rfl), by omega⟩
theorem dig_bad {k : Nat} (hT : Txt L) (h0 : 0 ≤ x) (h1 : x < L.length) (hc : ¬ isHex (rd L x)) : out q L (.dig k) st x = .fault (scalarF q L x wHex) := by
 unfold scalarF
 by_cases h : x = (L.length : Int) - 1
 ·rw [out_stop hT h rfl, if_pos h]
  unfold endF
  rw [step_dig, if_neg (by decide)]
 ·rw [out_err (m := (badWords q (rd L x) wHex, false)) h0 (by omega) (by rw [step_dig, if_neg hc]) rfl, if_neg h]
  rfl
/-- What comes of a text does not turn on what is open. -/
def thenO (q : ByteArray → ByteArray) (L : List Int) (st : List Br) : Out → Out
 | .done e => contO q L st e
 | .fault s => .fault s
end
/-- Bytes of a kind from a place to another, and no further. -/
structure RunTo (p : Int → Prop) (L : List Int) (i j : Int) : Prop where
 le : i ≤ j
 lt : j < L.length
 all : ∀ k, i ≤ k → k < j → p (rd L k)
 stop : ¬ p (rd L j)
theorem dig_iff (c : Int) (h0 : 0 ≤ c) (h1 : c < 256) : (c - 48) % 256 ≤ 9 ↔ isDig c := by unfold isDig; omega
theorem step_minus (q : ByteArray → ByteArray) (c : Int) (st : List Br) : step q c .minus st = if c = 48 then .ok (.zero, st) else if isDig c then .ok (.whole, st) else .error (badWords q c wNumber, false) := rfl
theorem step_e (q : ByteArray → ByteArray) (c : Int) (st : List Br) : step q c .e st = if c = 43 ∨ c = 45 then .ok (.sign, st) else if isDig c then .ok (.exp, st) else .error (badWords q c wExponent, false) := rfl
theorem more_dig (q : ByteArray → ByteArray) (c : Int) (ph : Ph) (st : List Br) (a b : Bool) (h : isDig c) : numMore q c ph st true a b = .ok (ph, st) := if_pos ⟨rfl, h⟩
theorem RunTo.from {p : Int → Prop} {L : List Int} {i j : Int} (h : RunTo p L i j) (hp : p (rd L i)) : RunTo p L (i + 1) j := by
 have h1 := h.le
 have h2 : i ≠ j := fun e => h.stop (e ▸ hp)
 exact ⟨by omega, h.lt, fun k hk hkj => h.all k (by omega) hkj, h.stop⟩
/-- From here a value ends there. -/
def Ends (q : ByteArray → ByteArray) (L : List Int) (ph : Ph) (i d : Int) : Prop := ∀ st, out q L ph st i = contO q L st d
/-- From here a value has this fault. -/
def Bad (q : ByteArray → ByteArray) (L : List Int) (ph : Ph) (i : Int) (s : SE) : Prop := ∀ st, out q L ph st i = .fault s
/-- From one place and state things come as from the other. -/
def Same (q : ByteArray → ByteArray) (L : List Int) (ph : Ph) (i : Int) (ph' : Ph) (j : Int) : Prop := ∀ st, out q L ph st i = out q L ph' st j
section
variable {q : ByteArray → ByteArray} {L : List Int} {ph ph' ph2 : Ph} {i j k d x : Int} {s : SE}
theorem Same.refl : Same q L ph i ph i := fun _ => rfl
theorem Same.trans (h : Same q L ph i ph' j) (h2 : Same q L ph' j ph2 k) : Same q L ph i ph2 k := fun st => (h st).trans (h2 st)
theorem Same.ends (h : Same q L ph i ph' j) (h2 : Ends q L ph' j d) : Ends q L ph i d := fun st => (h st).trans (h2 st)
theorem Same.bad (h : Same q L ph i ph' j) (h2 : Bad q L ph' j s) : Bad q L ph i s := fun st => (h st).trans (h2 st)
theorem same_step (h0 : 0 ≤ x) (h1 : x < (L.length : Int) - 1) (hs : ∀ st, step q (rd L x) ph st = .ok (ph', st)) (ha : isAll ph' = false) : Same q L ph x ph' (x + 1) := fun st => out_step h0 h1 (hs st) ha
/-- A byte that cannot stand in a number. -/
theorem num_bad (what : ByteArray) (hT : Txt L) (h0 : 0 ≤ x) (h1 : x < L.length) (hs : ∀ st, step q (rd L x) ph st = .error (badWords q (rd L x) what, false)) (he : numFinal ph = false) (hb : ∀ st, step q 32 ph st = .error (badWords q 32 what, false)) : Bad q L ph x (scalarF q L x what) := by
 intro st
 have hen : ender ph st = false := by unfold ender; rw [he]; rfl
 unfold scalarF
 by_cases h : x = (L.length : Int) - 1
 ·rw [out_stop hT h hen, if_pos h]
  unfold endF
  rw [hb]
 ·rw [out_err h0 (by omega) (hs st) hen, if_neg h]
  rfl
theorem dig_next (hT : Txt L) (h0 : 0 ≤ x) (h1 : x < L.length) (hd : isDig (rd L x)) : x < (L.length : Int) - 1 := hT.inside h0 h1 (by unfold isDig at hd; omega)
theorem point_bad (hT : Txt L) (h0 : 0 ≤ x) (h1 : x < L.length) (hd : ¬ isDig (rd L x)) : Bad q L .point x (scalarF q L x wFraction) :=
 num_bad _ hT h0 h1 (fun st => if_neg hd) rfl (fun st => rfl)
theorem sign_bad (hT : Txt L) (h0 : 0 ≤ x) (h1 : x < L.length) (hd : ¬ isDig (rd L x)) : Bad q L .sign x (scalarF q L x wExponent) :=
 num_bad _ hT h0 h1 (fun st => if_neg hd) rfl (fun st => rfl)
theorem e_bad (hT : Txt L) (h0 : 0 ≤ x) (h1 : x < L.length) (hd : ¬ isDig (rd L x)) (hp : rd L x ≠ 43) (hm : rd L x ≠ 45) : Bad q L .e x (scalarF q L x wExponent) :=
 num_bad _ hT h0 h1 (fun st => by rw [step_e, if_neg (by omega), if_neg hd]) rfl (fun st => rfl)
theorem minus_bad (hT : Txt L) (h0 : 0 ≤ x) (h1 : x < L.length) (hd : ¬ isDig (rd L x)) : Bad q L .minus x (scalarF q L x wNumber) :=
 num_bad _ hT h0 h1 (fun st => by rw [step_minus, if_neg (fun h => hd (by rw [h]; decide)), if_neg hd]) rfl (fun st => rfl)
theorem point_dig (hT : Txt L) (h0 : 0 ≤ x) (h1 : x < L.length) (hd : isDig (rd L x)) : Same q L .point x .frac (x + 1) := same_step h0 (dig_next hT h0 h1 hd) (fun st => if_pos hd) rfl
theorem sign_dig (hT : Txt L) (h0 : 0 ≤ x) (h1 : x < L.length) (hd : isDig (rd L x)) : Same q L .sign x .exp (x + 1) := same_step h0 (dig_next hT h0 h1 hd) (fun st => if_pos hd) rfl
theorem e_dig (hT : Txt L) (h0 : 0 ≤ x) (h1 : x < L.length) (hd : isDig (rd L x)) : Same q L .e x .exp (x + 1) := same_step h0 (dig_next hT h0 h1 hd) (fun st => by rw [step_e, if_neg (by unfold isDig at hd; omega), if_pos hd]) rfl
theorem e_sign (hT : Txt L) (h0 : 0 ≤ x) (h1 : x < L.length) (hd : rd L x = 43 ∨ rd L x = 45) : Same q L .e x .sign (x + 1) := same_step h0 (hT.inside h0 h1 (by omega)) (fun st => if_pos hd) rfl
theorem minus_zero (hT : Txt L) (h0 : 0 ≤ x) (h1 : x < L.length) (hd : rd L x = 48) : Same q L .minus x .zero (x + 1) := same_step h0 (hT.inside h0 h1 (by omega)) (fun st => if_pos hd) rfl
theorem minus_dig (hT : Txt L) (h0 : 0 ≤ x) (h1 : x < L.length) (hd : isDig (rd L x)) (hz : rd L x ≠ 48) : Same q L .minus x .whole (x + 1) := same_step h0 (dig_next hT h0 h1 hd) (fun st => by rw [step_minus, if_neg hz, if_pos hd]) rfl
theorem zero_dot (hT : Txt L) (h0 : 0 ≤ x) (h1 : x < L.length) (hd : rd L x = 46) : Same q L .zero x .point (x + 1) := same_step h0 (hT.inside h0 h1 (by omega)) (fun st => by rw [hd]; rfl) rfl
theorem whole_dot (hT : Txt L) (h0 : 0 ≤ x) (h1 : x < L.length) (hd : rd L x = 46) : Same q L .whole x .point (x + 1) := same_step h0 (hT.inside h0 h1 (by omega)) (fun st => by rw [hd]; rfl) rfl
theorem zero_e (hT : Txt L) (h0 : 0 ≤ x) (h1 : x < L.length) (hd : rd L x = 101 ∨ rd L x = 69) : Same q L .zero x .e (x + 1) := same_step h0 (hT.inside h0 h1 (by omega)) (fun st => by rcases hd with hd | hd <;> rw [hd] <;> rfl) rfl
theorem whole_e (hT : Txt L) (h0 : 0 ≤ x) (h1 : x < L.length) (hd : rd L x = 101 ∨ rd L x = 69) : Same q L .whole x .e (x + 1) := same_step h0 (hT.inside h0 h1 (by omega)) (fun st => by rcases hd with hd | hd <;> rw [hd] <;> rfl) rfl
theorem frac_e (hT : Txt L) (h0 : 0 ≤ x) (h1 : x < L.length) (hd : rd L x = 101 ∨ rd L x = 69) : Same q L .frac x .e (x + 1) := same_step h0 (hT.inside h0 h1 (by omega)) (fun st => by rcases hd with hd | hd <;> rw [hd] <;> rfl) rfl
/-- Digits that go on. -/
theorem digs {p : Ph} (hT : Txt L) (hp : ∀ c st, isDig c → step q c p st = .ok (p, st)) (ha : isAll p = false) : ∀ n : Nat, ∀ i : Int, 0 ≤ i → RunTo isDig L i j → j - i = n → Same q L p i p j := by
 intro n
 induction n with
 | zero => intro i h0 hr hn; rw [show j = i by omega]; exact Same.refl
 | succ n ih =>
  intro i h0 hr hn
  have hd := hr.all i (Int.le_refl _) (by omega)
  have hlt := hr.lt
  refine Same.trans (same_step h0 (dig_next hT h0 (by omega) hd) (fun st => hp _ st hd) ha) (ih (i + 1) (by omega) ⟨by omega, hlt, fun m hm hmj => hr.all m (by omega) hmj, hr.stop⟩ (by omega))
theorem whole_digs (hT : Txt L) (h0 : 0 ≤ i) (hr : RunTo isDig L i j) : Same q L .whole i .whole j := digs (p := .whole) (q := q) hT (fun c st hd => more_dig q c _ st _ _ hd) rfl (j - i).toNat i h0 hr (by have := hr.le; omega)
theorem frac_digs (hT : Txt L) (h0 : 0 ≤ i) (hr : RunTo isDig L i j) : Same q L .frac i .frac j := digs (p := .frac) (q := q) hT (fun c st hd => more_dig q c _ st _ _ hd) rfl (j - i).toNat i h0 hr (by have := hr.le; omega)
theorem exp_digs (hT : Txt L) (h0 : 0 ≤ i) (hr : RunTo isDig L i j) : Same q L .exp i .exp j := digs (p := .exp) (q := q) hT (fun c st hd => more_dig q c _ st _ _ hd) rfl (j - i).toNat i h0 hr (by have := hr.le; omega)
theorem between_all (c : Int) (st : List Br) : (∃ m, between q c .all st = .error m) ∨ between q c .all st = .ok (.all, st) := by
 unfold between
 by_cases h : isBlank c
 ·rw [if_pos h]; exact .inr rfl
 ·rw [if_neg h]; exact .inl ⟨_, rfl⟩
theorem step_closed (c : Int) (st : List Br) (h : st ≠ []) : step q c (closed st).1 (closed st).2 = between q c (closed st).1 (closed st).2 := by
 match st, h with
 | .obj :: r, _ => rfl
 | .arr :: r, _ => rfl
 | .key :: r, _ => rfl
theorem closed_ender (st : List Br) : ender (closed st).1 (closed st).2 = false := by
 match st with
 | [] => rfl
 | .obj :: r => rfl
 | .arr :: r => rfl
 | .key :: r => rfl
theorem closed_all (st : List Br) (h : st ≠ []) : isAll (closed st).1 = false := by
 match st, h with
 | .obj :: r, _ => rfl
 | .arr :: r, _ => rfl
 | .key :: r, _ => rfl
/-- A number ends where it cannot go on. -/
theorem num_ends (hT : Txt L) (h0 : 0 ≤ x) (h1 : x < L.length) (hf : numFinal ph = true) (hs : ∀ st, step q (rd L x) ph st = between q (rd L x) (closed st).1 (closed st).2) (hb : ∀ st, step q 32 ph st = between q 32 (closed st).1 (closed st).2) : Ends q L ph x x := by
 intro st
 unfold contO
 by_cases hn : st = []
 ·subst hn
  have e0 : isAll (closed []).1 = true := rfl
  rw [if_pos e0]
  have he : ender ph [] = true := by unfold ender; rw [hf]; rfl
  by_cases h : x = (L.length : Int) - 1
  ·rw [out_end q L ph [] x h hT.pos, if_pos he]
  ·rw [out_at q L ph [] x h0 (by omega), hs]
   rcases between_all (q := q) (rd L x) [] with ⟨m, hm⟩ | hm
   ·show (match between q (rd L x) .all [] with
     | .error m => if ender ph [] = true then Out.done x else .fault ⟨m.1, x + 1, false, if m.2 = true then x + 1 else 0⟩
     | .ok s => if isAll s.1 = true then (if ender ph [] = true then .done x else .done (x + 1)) else out q L s.1 s.2 (x + 1)) = _
    rw [hm]
    exact if_pos he
   ·show (match between q (rd L x) .all [] with
     | .error m => if ender ph [] = true then Out.done x else .fault ⟨m.1, x + 1, false, if m.2 = true then x + 1 else 0⟩
     | .ok s => if isAll s.1 = true then (if ender ph [] = true then .done x else .done (x + 1)) else out q L s.1 s.2 (x + 1)) = _
    rw [hm]
    simp only [he]
    rfl
 ·rw [if_neg (by rw [closed_all st hn]; decide)]
  have he : ender ph st = false := by
   unfold ender
   cases st with
   | nil => exact absurd rfl hn
   | cons a r => rw [hf]; rfl
  by_cases h : x = (L.length : Int) - 1
  ·rw [out_stop hT h he, out_stop hT h (closed_ender st)]
   unfold endF
   rw [hb, step_closed _ _ hn]
  ·rw [out_at q L ph st x h0 (by omega), out_at q L _ _ x h0 (by omega), hs, step_closed _ _ hn, he, closed_ender]
theorem zero_ends (hT : Txt L) (h0 : 0 ≤ x) (h1 : x < L.length) (hp : rd L x ≠ 46) (he : rd L x ≠ 101) (hE : rd L x ≠ 69) : Ends q L .zero x x :=
 num_ends hT h0 h1 rfl (fun st => by show numMore q _ .zero st false true true = _; unfold numMore; rw [if_neg (by simp), if_neg (by simp [hp]), if_neg (by simp [he, hE])]) (fun st => rfl)
theorem whole_ends (hT : Txt L) (h0 : 0 ≤ x) (h1 : x < L.length) (hd : ¬ isDig (rd L x)) (hp : rd L x ≠ 46) (he : rd L x ≠ 101) (hE : rd L x ≠ 69) : Ends q L .whole x x :=
 num_ends hT h0 h1 rfl (fun st => by show numMore q _ .whole st true true true = _; unfold numMore; rw [if_neg (by simp [hd]), if_neg (by simp [hp]), if_neg (by simp [he, hE])]) (fun st => rfl)
theorem frac_ends (hT : Txt L) (h0 : 0 ≤ x) (h1 : x < L.length) (hd : ¬ isDig (rd L x)) (he : rd L x ≠ 101) (hE : rd L x ≠ 69) : Ends q L .frac x x :=
 num_ends hT h0 h1 rfl (fun st => by show numMore q _ .frac st true false true = _; unfold numMore; rw [if_neg (by simp [hd]), if_neg (by simp), if_neg (by simp [he, hE])]) (fun st => rfl)
theorem exp_ends (hT : Txt L) (h0 : 0 ≤ x) (h1 : x < L.length) (hd : ¬ isDig (rd L x)) : Ends q L .exp x x :=
 num_ends hT h0 h1 rfl (fun st => by show numMore q _ .exp st true false false = _; unfold numMore; rw [if_neg (by simp [hd]), if_neg (by simp), if_neg (by simp)]) (fun st => rfl)
end
/-- The first byte of a word that differs, behind the first one. -/
structure Mis (L : List Int) (cur : Int) (l : List Int) (k : Nat) : Prop where
 one : 1 ≤ k
 lt : k < l.length
 in_ : cur + k < L.length
 all : ∀ j : Nat, 1 ≤ j → j < k → rd L (cur + j) = l.getD j 0
 ne : rd L (cur + k) ≠ l.getD k 0
/-- Where white space may stand. -/
def airy : Ph → Bool
 | .val | .item0 | .name0 | .name | .colon | .memb | .item => true
 | _ => false
theorem step_airy {ph : Ph} (q : ByteArray → ByteArray) (c : Int) (st : List Br) (h : airy ph = true) : step q c ph st = between q c ph st := by
 cases ph <;> first | rfl | cases h
theorem airy_all {ph : Ph} (h : airy ph = true) : isAll ph = false ∧ ender ph [] = false ∧ ∀ st, ender ph st = false := by
 cases ph <;> first | exact ⟨rfl, rfl, fun _ => rfl⟩ | cases h
theorem closed_airy (st : List Br) (h : st ≠ []) : airy (closed st).1 = true := by
 match st, h with
 | .obj :: r, _ => rfl
 | .arr :: r, _ => rfl
 | .key :: r, _ => rfl
section
variable {q : ByteArray → ByteArray} {L : List Int} {ph : Ph} {i j x : Int} {st : List Br}
theorem ws_same (hT : Txt L) (ha : airy ph = true) : ∀ n : Nat, ∀ i : Int, 0 ≤ i → RunTo isBlank L i j → j - i = n → Same q L ph i ph j := by
 intro n
 induction n with
 | zero => intro i h0 hr hn; rw [show j = i by omega]; exact Same.refl
 | succ n ih =>
  intro i h0 hr hn
  have hb := hr.all i (Int.le_refl _) (by omega)
  have hlt := hr.lt
  have hin := hT.inside h0 (by omega) (by unfold isBlank at hb; omega)
  refine Same.trans (same_step h0 hin (fun st => ?_) (airy_all ha).1) (ih (i + 1) (by omega) (hr.from hb) (by omega))
  rw [step_airy q _ st ha]
  unfold between
  rw [if_pos hb]
theorem ws_out (hT : Txt L) (ha : airy ph = true) (h0 : 0 ≤ i) (hr : RunTo isBlank L i j) (st : List Br) : out q L ph st i = out q L ph st j :=
 ws_same hT ha (j - i).toNat i h0 hr (by have := hr.le; omega) st
theorem blank_out (hT : Txt L) (ha : airy ph = true) (h0 : 0 ≤ x) (h1 : x < L.length) (hb : isBlank (rd L x)) (st : List Br) : out q L ph st x = out q L ph st (x + 1) := by
 refine out_step h0 (hT.inside h0 h1 (by unfold isBlank at hb; omega)) ?_ (airy_all ha).1
 rw [step_airy q _ st ha]
 unfold between
 rw [if_pos hb]
/-- A step of what is not white space. -/
theorem air_ok {ph' : Ph} {st' : List Br} (hT : Txt L) (ha : airy ph = true) (h0 : 0 ≤ x) (h1 : x < (L.length : Int) - 1) (hs : between q (rd L x) ph st = .ok (ph', st')) (hal : isAll ph' = false) : out q L ph st x = out q L ph' st' (x + 1) :=
 out_step h0 h1 (by rw [step_airy q _ st ha]; exact hs) hal
/-- A bracket that shuts what is open. -/
theorem air_shut (hT : Txt L) (ha : airy ph = true) (h0 : 0 ≤ x) (h1 : x < (L.length : Int) - 1) (hs : between q (rd L x) ph st = .ok (closed st.tail)) : out q L ph st x = contO q L st.tail (x + 1) := by
 rw [out_at q L ph st x h0 h1, step_airy q _ st ha, hs]
 simp only [(airy_all ha).2.2 st]
 rfl
/-- A byte that cannot stand there. -/
theorem air_bad (k : Int) (b : Bool) (hT : Txt L) (ha : airy ph = true) (h0 : 0 ≤ x) (h1 : x < L.length) (hs : between q (rd L x) ph st = .error (badWords q (rd L x) (whereWords k), b)) (hb : b = true ↔ k = 0) : out q L ph st x = .fault (faultAt q L x k) := by
 unfold faultAt
 by_cases h : x = (L.length : Int) - 1
 ·rw [out_stop hT h ((airy_all ha).2.2 st), if_pos h]
  unfold endF
  rw [step_airy q _ st ha]
  unfold between
  rw [if_pos (by decide)]
 ·rw [out_err h0 (by omega) (by rw [step_airy q _ st ha]; exact hs) ((airy_all ha).2.2 st), if_neg h]
  congr 2
  by_cases hk : k = 0
  ·rw [if_pos (hb.mpr hk), if_pos hk]
  ·rw [if_neg (fun h => hk (hb.mp h)), if_neg hk]
end
section
variable {q : ByteArray → ByteArray} {L : List Int} {x : Int} {st : List Br} {l : List Int} {k : Nat}
theorem word_next (hT : Txt L) (h0 : 0 ≤ x) (h1 : x < L.length) (hn : l.getD k 0 ≠ 0) (hc : rd L x = l.getD k 0) (hk : k + 1 < l.length) : out q L (.word l k) st x = out q L (.word l (k + 1)) st (x + 1) ∧ x + 1 < L.length := by
 have hin := hT.inside h0 h1 (by rw [hc]; exact hn)
 exact ⟨out_step h0 hin (by rw [step_word, if_pos hc, if_neg (by omega)]) rfl, by omega⟩
theorem word_last (hT : Txt L) (h0 : 0 ≤ x) (h1 : x < L.length) (hn : l.getD k 0 ≠ 0) (hc : rd L x = l.getD k 0) (hk : k + 1 = l.length) : out q L (.word l k) st x = contO q L st (x + 1) ∧ x + 1 < L.length := by
 have hin := hT.inside h0 h1 (by rw [hc]; exact hn)
 exact ⟨out_close h0 hin (by rw [step_word, if_pos hc, if_pos hk]) rfl, by omega⟩
theorem word_bad (hT : Txt L) (h0 : 0 ≤ x) (h1 : x < L.length) (h32 : l.getD k 0 ≠ 32) (hc : rd L x ≠ l.getD k 0) : out q L (.word l k) st x = .fault (scalarF q L x (litWhat q l k)) := by
 unfold scalarF
 by_cases h : x = (L.length : Int) - 1
 ·rw [out_stop hT h rfl, if_pos h]
  unfold endF
  rw [step_word, if_neg (Ne.symm h32)]
 ·rw [out_err (m := (badWords q (rd L x) (litWhat q l k), false)) h0 (by omega) (by rw [step_word, if_neg hc]) rfl, if_neg h]
  rfl
theorem val_step {ph : Ph} {st' : List Br} (hT : Txt L) (h0 : 0 ≤ x) (h1 : x < L.length) (hn : rd L x ≠ 0) (hs : step q (rd L x) .val st = .ok (ph, st')) (ha : isAll ph = false) : out q L .val st x = out q L ph st' (x + 1) ∧ x + 1 < L.length := by
 have hin := hT.inside h0 h1 hn
 exact ⟨out_step h0 hin hs ha, by omega⟩
theorem val_text (hT : Txt L) (h0 : 0 ≤ x) (h1 : x < L.length) (hc : rd L x = 34) : out q L .val st x = out q L .text st (x + 1) ∧ x + 1 < L.length := val_step hT h0 h1 (by omega) (by rw [hc]; rfl) rfl
theorem val_obj (hT : Txt L) (h0 : 0 ≤ x) (h1 : x < L.length) (hc : rd L x = 123) : out q L .val st x = out q L .name0 (.obj :: st) (x + 1) ∧ x + 1 < L.length := val_step hT h0 h1 (by omega) (by rw [hc]; rfl) rfl
theorem val_arr (hT : Txt L) (h0 : 0 ≤ x) (h1 : x < L.length) (hc : rd L x = 91) : out q L .val st x = out q L .item0 (.arr :: st) (x + 1) ∧ x + 1 < L.length := val_step hT h0 h1 (by omega) (by rw [hc]; rfl) rfl
theorem val_t (hT : Txt L) (h0 : 0 ≤ x) (h1 : x < L.length) (hc : rd L x = 116) : out q L .val st x = out q L (.word lTrue 1) st (x + 1) ∧ x + 1 < L.length := val_step hT h0 h1 (by omega) (by rw [hc]; rfl) rfl
theorem val_f (hT : Txt L) (h0 : 0 ≤ x) (h1 : x < L.length) (hc : rd L x = 102) : out q L .val st x = out q L (.word lFalse 1) st (x + 1) ∧ x + 1 < L.length := val_step hT h0 h1 (by omega) (by rw [hc]; rfl) rfl
theorem val_n (hT : Txt L) (h0 : 0 ≤ x) (h1 : x < L.length) (hc : rd L x = 110) : out q L .val st x = out q L (.word lNull 1) st (x + 1) ∧ x + 1 < L.length := val_step hT h0 h1 (by omega) (by rw [hc]; rfl) rfl
theorem val_bad (hT : Txt L) (h0 : 0 ≤ x) (h1 : x < L.length) (hb : ¬ isBlank (rd L x)) (c1 : rd L x ≠ 123) (c2 : rd L x ≠ 91) (c3 : rd L x ≠ 34) (c4 : rd L x ≠ 45) (c5 : ¬ isDig (rd L x)) (c6 : rd L x ≠ 116) (c7 : rd L x ≠ 102) (c8 : rd L x ≠ 110) : out q L .val st x = .fault (faultAt q L x 0) := by
 have c9 : rd L x ≠ 48 := fun h => c5 (by rw [h]; decide)
 refine air_bad 0 true hT rfl h0 h1 ?_ ⟨fun _ => rfl, fun _ => rfl⟩
 unfold between
 rw [if_neg hb]
 unfold begin_
 rw [if_neg c1, if_neg c2, if_neg c3, if_neg c4, if_neg c9, if_neg c5, if_neg c6, if_neg c7, if_neg c8]
 rfl
/-- Where no bracket shuts an object or an array at once, it goes on as behind a comma. -/
theorem name0_name (hT : Txt L) (h0 : 0 ≤ x) (h1 : x < L.length) (hb : ¬ isBlank (rd L x)) (hc : rd L x ≠ 125) : out q L .name0 st x = out q L .name st x := by
 by_cases h : x = (L.length : Int) - 1
 ·rw [out_stop hT h rfl, out_stop hT h rfl]
  rfl
 ·rw [out_at q L _ _ x h0 (by omega), out_at q L _ _ x h0 (by omega)]
  have e : step q (rd L x) .name0 st = step q (rd L x) .name st := by
   show between q (rd L x) .name0 st = between q (rd L x) .name st
   unfold between
   rw [if_neg hb, if_neg hb]
   exact if_neg hc
  rw [e]
  rfl
theorem item0_val (hT : Txt L) (h0 : 0 ≤ x) (h1 : x < L.length) (hb : ¬ isBlank (rd L x)) (hc : rd L x ≠ 93) : out q L .item0 st x = out q L .val st x := by
 by_cases h : x = (L.length : Int) - 1
 ·rw [out_stop hT h rfl, out_stop hT h rfl]
  rfl
 ·rw [out_at q L _ _ x h0 (by omega), out_at q L _ _ x h0 (by omega)]
  have e : step q (rd L x) .item0 st = step q (rd L x) .val st := by
   show between q (rd L x) .item0 st = between q (rd L x) .val st
   unfold between
   rw [if_neg hb, if_neg hb]
   exact if_neg hc
  rw [e]
  rfl
end
end Go.Proofs.YtbikiibpjdiaaaaDoor.Err
/- What the pass for formats computes, as plain Lean: texts, words, numbers, values, with what is written of them. -/
namespace Go.Proofs.YtbikiibpjdiaaaaDoor.Err
open Go.RowKit Go.Proofs.YtbikiibpjdiaaaaDoorW.PrintWords Go.Proofs.YtbikiibpjdiaaaaDoorW.PrintLast Go.Proofs.YtbikiibpjdiaaaaDoorW.PrintMore
open Go.Proofs.YtbikiibpjdiaaaaDoor.Dig
set_option linter.unusedVariables false
/-- The place behind white space. -/
def skn (L : List Int) : Nat → Int → Int
 | 0, x => x
 | n + 1, x => if isBlank (rd L x) then skn L n (x + 1) else x
def skp (L : List Int) (x : Int) : Int := skn L L.length x
/-- Bytes from a place to another. -/
def seg (L : List Int) (a b : Int) : List Int := (L.take b.toNat).drop a.toNat
def hx (n : Int) : Int := if n < 10 then 48 + n else 87 + n
/-- The place behind an escape, whose backslash stands ahead. -/
def escF (L : List Int) (x : Int) : Option Int :=
 if isEsc (rd L x) then some (x + 1) else if rd L x = 117 ∧ isHex (rd L (x + 1)) ∧ isHex (rd L (x + 2)) ∧ isHex (rd L (x + 3)) ∧ isHex (rd L (x + 4)) then some (x + 5) else none
def sign (c : Int) : Prop := c = 60 ∨ c = 62 ∨ c = 38
instance (c : Int) : Decidable (sign c) := by unfold sign; exact inferInstance
/-- An end of a line of Unicode. -/
def lineEnd (L : List Int) (x : Int) : Prop := rd L x = 226 ∧ x + 2 < (L.length : Int) - 1 ∧ rd L (x + 1) = 128 ∧ (rd L (x + 2) = 168 ∨ rd L (x + 2) = 169)
instance (L : List Int) (x : Int) : Decidable (lineEnd L x) := by unfold lineEnd; exact inferInstance
def escS (c : Int) : List Int := [92, 117, 48, 48, hx (c / 16), hx (c % 16)]
def escU (c : Int) : List Int := [92, 117, 50, 48, 50, hx (c % 16)]
/-- What comes of a text from behind its quote: its end, and what is written of it. -/
def fs (L : List Int) (esc : Bool) : Nat → Int → Option (Int × List Int)
 | 0, _ => none
 | n + 1, x =>
  if rd L x = 34 then some (x + 1, [34])
  else if rd L x = 92 then match escF L (x + 1) with
   | none => none
   | some d => (fs L esc n d).map fun r => (r.1, seg L x d ++ r.2)
  else if rd L x < 32 then none
  else if esc = true ∧ sign (rd L x) then (fs L esc n (x + 1)).map fun r => (r.1, escS (rd L x) ++ r.2)
  else if esc = true ∧ lineEnd L x then (fs L esc n (x + 3)).map fun r => (r.1, escU (rd L (x + 2)) ++ r.2)
  else (fs L esc n (x + 1)).map fun r => (r.1, rd L x :: r.2)
def fstr (L : List Int) (esc : Bool) (x : Int) : Option (Int × List Int) := (fs L esc L.length (x + 1)).map fun r => (r.1, 34 :: r.2)
def flit (L : List Int) (x : Int) (l : List Int) : Option (Int × List Int) := if seg L x (x + l.length) = l then some (x + l.length, l) else none
def rest (L : List Int) (x : Int) : List Int := (L.take (L.length - 1)).drop x.toNat
def fnum (L : List Int) (x : Int) : Option (Int × List Int) :=
 if (scanNum (rest L x)).2 = 0 then some (x + (scanNum (rest L x)).1, seg L x (x + (scanNum (rest L x)).1)) else none
/-- A prefix and an indent, or none. -/
abbrev Ind := Option (List Int × List Int)
def nl : Ind → Nat → List Int
 | none, _ => []
 | some (p, i), d => 10 :: (p ++ (List.replicate d i).flatten)
def cb : Ind → List Int
 | none => []
 | some _ => [32]
inductive Md where
 | val | key | item
/-- The deepest that is written. -/
def deep : Nat := 10000
/-- What comes of a value, of an object from a name on, of an array from a value on. -/
def fv (L : List Int) (esc : Bool) (ind : Ind) : Nat → Md → Int → Nat → Option (Int × List Int)
 | 0, _, _, _ => none
 | n + 1, .val, x, d =>
  if rd L x = 123 then (if d + 1 > deep then none else if rd L (skp L (x + 1)) = 125 then some (skp L (x + 1) + 1, [123, 125]) else (fv L esc ind n .key (skp L (x + 1)) (d + 1)).map fun r => (r.1, 123 :: r.2))
  else if rd L x = 91 then (if d + 1 > deep then none else if rd L (skp L (x + 1)) = 93 then some (skp L (x + 1) + 1, [91, 93]) else (fv L esc ind n .item (skp L (x + 1)) (d + 1)).map fun r => (r.1, 91 :: r.2))
  else if rd L x = 34 then fstr L esc x
  else if rd L x = 116 then flit L x lTrue
  else if rd L x = 102 then flit L x lFalse
  else if rd L x = 110 then flit L x lNull
  else if rd L x = 45 ∨ isDig (rd L x) then fnum L x
  else none
 | n + 1, .key, x, d =>
  if rd L x = 34 then match fstr L esc x with
   | none => none
   | some (e, T) => if rd L (skp L e) = 58 then match fv L esc ind n .val (skp L (skp L e + 1)) d with
    | none => none
    | some (e2, T2) =>
     if rd L (skp L e2) = 44 then (fv L esc ind n .key (skp L (skp L e2 + 1)) d).map fun r => (r.1, nl ind d ++ T ++ 58 :: (cb ind ++ T2 ++ 44 :: r.2))
     else if rd L (skp L e2) = 125 then some (skp L e2 + 1, nl ind d ++ T ++ 58 :: (cb ind ++ T2 ++ nl ind (d - 1) ++ [125]))
     else none
    else none
  else none
 | n + 1, .item, x, d =>
  match fv L esc ind n .val x d with
  | none => none
  | some (e, T) =>
   if rd L (skp L e) = 44 then (fv L esc ind n .item (skp L (skp L e + 1)) d).map fun r => (r.1, nl ind d ++ T ++ 44 :: r.2)
   else if rd L (skp L e) = 93 then some (skp L e + 1, nl ind d ++ T ++ nl ind (d - 1) ++ [93])
   else none
section
variable {L : List Int} {x y : Int} {esc : Bool} {ind : Ind}
theorem skn_run (hT : Txt L) : ∀ n : Nat, ∀ x : Int, 0 ≤ x → x < L.length → (L.length : Int) - x ≤ n → RunTo isBlank L x (skn L n x) := by
 intro n
 induction n with
 | zero => intro x h0 h1 hn; omega
 | succ n ih =>
  intro x h0 h1 hn
  unfold skn
  by_cases hb : isBlank (rd L x)
  ·rw [if_pos hb]
   have hin := hT.inside h0 h1 (by unfold isBlank at hb; omega)
   have hr := ih (x + 1) (by omega) (by omega) (by omega)
   refine ⟨by have := hr.le; omega, hr.lt, fun m hm hmj => ?_, hr.stop⟩
   by_cases hmi : m = x
   ·rw [hmi]; exact hb
   ·exact hr.all m (by omega) hmj
  ·rw [if_neg hb]
   exact ⟨Int.le_refl _, h1, fun m hm hmj => by omega, hb⟩
theorem skp_run (hT : Txt L) (h0 : 0 ≤ x) (h1 : x < L.length) : RunTo isBlank L x (skp L x) := skn_run hT L.length x h0 h1 (by omega)
theorem skp_ge (hT : Txt L) (h0 : 0 ≤ x) (h1 : x < L.length) : x ≤ skp L x ∧ skp L x < L.length := ⟨(skp_run hT h0 h1).le, (skp_run hT h0 h1).lt⟩
theorem RunTo.uniq {p : Int → Prop} {i j k : Int} (h : RunTo p L i j) (h2 : RunTo p L i k) : j = k := by
 have a1 := h.le
 have a2 := h2.le
 rcases Int.lt_trichotomy j k with h3 | h3 | h3
 ·exact absurd (h2.all j a1 h3) h.stop
 ·exact h3
 ·exact absurd (h.all k a2 h3) h2.stop
theorem seg_len (a b : Int) (h0 : 0 ≤ a) (hab : a ≤ b) (hb : b ≤ L.length) : (seg L a b).length = (b - a).toNat := by
 unfold seg; rw [List.length_drop, List.length_take]; omega
theorem seg_get (a b : Int) (k : Nat) (h0 : 0 ≤ a) (hk : a + k < b) (hb : b ≤ L.length) : (seg L a b)[k]? = some (rd L (a + k)) := by
 unfold seg
 rw [List.getElem?_drop, List.getElem?_take, if_pos (by omega)]
 obtain ⟨hh, e⟩ := rd_get L (a + k) (by omega) (by omega)
 rw [e]
 have e2 : (a + (k : Int)).toNat = a.toNat + k := by omega
 simp only [e2] at hh ⊢
 exact List.getElem?_eq_getElem hh
theorem seg_nil (a : Int) : seg L a a = [] := by unfold seg; exact List.drop_eq_nil_of_le (by rw [List.length_take]; omega)
theorem seg_app (a b c : Int) (h0 : 0 ≤ a) (hab : a ≤ b) (hbc : b ≤ c) (hc : c ≤ L.length) : seg L a b ++ seg L b c = seg L a c := by
 apply List.ext_getElem?
 intro k
 by_cases h1 : k < (b - a).toNat
 ·rw [List.getElem?_append_left (by rw [seg_len a b h0 hab (by omega)]; exact h1), seg_get a b k h0 (by omega) (by omega), seg_get a c k h0 (by omega) hc]
 ·rw [List.getElem?_append_right (by rw [seg_len a b h0 hab (by omega)]; omega), seg_len a b h0 hab (by omega)]
  by_cases h2 : a + k < c
  ·rw [seg_get b c _ (by omega) (by omega) hc, seg_get a c k h0 h2 hc]
   congr 2
   omega
  ·rw [List.getElem?_eq_none (by rw [seg_len b c (by omega) hbc hc]; omega), List.getElem?_eq_none (by rw [seg_len a c h0 (by omega) hc]; omega)]
theorem seg_one (a : Int) (h0 : 0 ≤ a) (h1 : a < L.length) : seg L a (a + 1) = [rd L a] := by
 apply List.ext_getElem?
 intro k
 match k with
 | 0 => rw [seg_get a (a + 1) 0 h0 (by omega) (by omega)]; simp
 | k + 1 => rw [List.getElem?_eq_none (by rw [seg_len a (a + 1) h0 (by omega) (by omega)]; omega)]; rfl
theorem seg_cons (a b : Int) (h0 : 0 ≤ a) (hab : a < b) (hb : b ≤ L.length) : seg L a b = rd L a :: seg L (a + 1) b := by
 rw [← seg_app a (a + 1) b h0 (by omega) (by omega) hb, seg_one a h0 (by omega)]
 rfl
theorem escF_gt {d : Int} (hT : Txt L) (h0 : 0 ≤ x) (h1 : x < L.length) (h : escF L x = some d) : x < d ∧ d < L.length := by
 unfold escF at h
 split at h
 ·rename_i hc
  cases h
  have := hT.inside h0 h1 (by unfold isEsc at hc; omega)
  omega
 ·split at h
  ·rename_i hc
   cases h
   have nz : ∀ c : Int, isHex c → c ≠ 0 := fun c hc => by unfold isHex isDig at hc; omega
   have b0 := hT.inside h0 h1 (by omega)
   have b1 := hT.inside (x := x + 1) (by omega) (by omega) (nz _ hc.2.1)
   have b2 := hT.inside (x := x + 2) (by omega) (by omega) (nz _ hc.2.2.1)
   have b3 := hT.inside (x := x + 3) (by omega) (by omega) (nz _ hc.2.2.2.1)
   have b4 := hT.inside (x := x + 4) (by omega) (by omega) (nz _ hc.2.2.2.2)
   omega
  ·cases h
/-- A text's end lies behind it. -/
theorem fs_gt (hT : Txt L) : ∀ (n : Nat) (x e : Int) (T : List Int), 0 ≤ x → x < L.length → fs L esc n x = some (e, T) → x < e ∧ e < L.length := by
 intro n
 induction n with
 | zero => intro x e T h0 h1 h; cases h
 | succ n ih =>
  intro x e T h0 h1 h
  unfold fs at h
  split at h
  ·rename_i hc
   cases h
   have := hT.inside h0 h1 (by omega)
   omega
  split at h
  ·rename_i hc
   have hin := hT.inside h0 h1 (by omega)
   split at h
   ·cases h
   ·rename_i d hd
    have hg := escF_gt hT (by omega) (by omega) hd
    obtain ⟨⟨e1, T1⟩, hr, he⟩ := Option.map_eq_some_iff.1 h
    cases he
    have := ih d e1 T1 (by omega) hg.2 hr
    exact ⟨by omega, this.2⟩
  split at h
  ·cases h
  ·rename_i c1 c2 c3
   have hin := hT.inside h0 h1 (by omega)
   split at h
   ·obtain ⟨⟨e1, T1⟩, hr, he⟩ := Option.map_eq_some_iff.1 h
    cases he
    have := ih (x + 1) e1 T1 (by omega) (by omega) hr
    omega
   split at h
   ·rename_i hl
    obtain ⟨⟨e1, T1⟩, hr, he⟩ := Option.map_eq_some_iff.1 h
    cases he
    have := ih (x + 3) e1 T1 (by omega) (by have := hl.2.2.1; omega) hr
    omega
   ·obtain ⟨⟨e1, T1⟩, hr, he⟩ := Option.map_eq_some_iff.1 h
    cases he
    have := ih (x + 1) e1 T1 (by omega) (by omega) hr
    omega
/-- Fuel beyond what is wanted changes nothing. -/
theorem fs_fuel (hT : Txt L) : ∀ (n m : Nat) (x : Int), 0 ≤ x → x < L.length → (L.length : Int) - x ≤ n → (L.length : Int) - x ≤ m → fs L esc n x = fs L esc m x := by
 intro n
 induction n with
 | zero => intro m x h0 h1 hn; omega
 | succ n ih =>
  intro m x h0 h1 hn hm
  cases m with
  | zero => omega
  | succ m =>
   unfold fs
   by_cases c1 : rd L x = 34
   ·rw [if_pos c1, if_pos c1]
   rw [if_neg c1, if_neg c1]
   by_cases c2 : rd L x = 92
   ·rw [if_pos c2, if_pos c2]
    have hin := hT.inside h0 h1 (by omega)
    cases hd : escF L (x + 1) with
    | none => rfl
    | some d =>
     have hg := escF_gt hT (by omega) (by omega) hd
     simp only []
     rw [ih m d (by omega) hg.2 (by omega) (by omega)]
   rw [if_neg c2, if_neg c2]
   by_cases c3 : rd L x < 32
   ·rw [if_pos c3, if_pos c3]
   have hin := hT.inside h0 h1 (by omega)
   rw [if_neg c3, if_neg c3]
   rw [ih m (x + 1) (by omega) (by omega) (by omega) (by omega)]
   by_cases c4 : esc = true ∧ lineEnd L x
   ·rw [ih m (x + 3) (by omega) (by have := c4.2.2.1; omega) (by omega) (by omega)]
   ·rw [if_neg c4, if_neg c4]
theorem flit_gt {l T : List Int} {e : Int} (hT : Txt L) (h0 : 0 ≤ x) (h1 : x < L.length) (hl : 0 < l.length) (hz : ∀ c ∈ l, c ≠ 0) (h : flit L x l = some (e, T)) : x < e ∧ e < L.length := by
 unfold flit at h
 split at h
 ·rename_i hs
  cases h
  refine ⟨by omega, ?_⟩
  have hlen : (seg L x (x + l.length)).length = l.length := by rw [hs]
  unfold seg at hlen
  rw [List.length_drop, List.length_take] at hlen
  by_cases hlt : x + l.length < L.length
  ·exact hlt
  ·exfalso
   have he : x + (l.length : Int) = L.length := by omega
   have hg := seg_get (L := L) x (x + l.length) (l.length - 1) h0 (by omega) (by omega)
   rw [hs] at hg
   have hm : rd L (x + ((l.length - 1 : Nat) : Int)) ∈ l := List.mem_of_getElem? hg
   refine hz _ hm ?_
   rw [show x + ((l.length - 1 : Nat) : Int) = (L.length : Int) - 1 by omega]
   exact hT.last
 ·cases h
end
end Go.Proofs.YtbikiibpjdiaaaaDoor.Err
/- A number that the pass finds is one that the scanner takes. -/
namespace Go.Proofs.YtbikiibpjdiaaaaDoor.Err
open Go.RowKit Go.Proofs.YtbikiibpjdiaaaaDoorW.PrintWords Go.Proofs.YtbikiibpjdiaaaaDoorW.PrintLast Go.Proofs.YtbikiibpjdiaaaaDoorW.PrintMore
open Go.Proofs.YtbikiibpjdiaaaaDoor.Dig
set_option linter.unusedVariables false
section
variable {q : ByteArray → ByteArray} {L : List Int} {x : Int} {ph : Ph}
theorem rest_len (h0 : 0 ≤ x) (h1 : x < L.length) : ((rest L x).length : Int) = (L.length : Int) - 1 - x := by
 unfold rest; rw [List.length_drop, List.length_take]; omega
theorem rest_rd (h0 : 0 ≤ x) (h1 : x < L.length) (i : Nat) (hi : i < (rest L x).length) : rd (rest L x) (i : Int) = rd L (x + i) := by
 have hl := rest_len h0 h1
 obtain ⟨h2, e2⟩ := rd_get (rest L x) i (by omega) (by omega)
 obtain ⟨h3, e3⟩ := rd_get L (x + i) (by omega) (by omega)
 rw [e2, e3]
 unfold rest
 have e : (x + (i : Int)).toNat = x.toNat + i := by omega
 simp only [List.getElem_drop, List.getElem_take, Int.toNat_natCast, e]
theorem rest_end (hT : Txt L) (h0 : 0 ≤ x) (h1 : x < L.length) (i : Nat) (hi : i = (rest L x).length) : rd L (x + i) = 0 := by
 have hl := rest_len h0 h1
 rw [show x + (i : Int) = (L.length : Int) - 1 by omega]
 exact hT.last
theorem rest_is (hT : Txt L) (h0 : 0 ≤ x) (h1 : x < L.length) (i : Nat) (hi : i ≤ (rest L x).length) (p : Int → Prop) (hp : ¬ p 0) : (i < (rest L x).length ∧ p (rd (rest L x) (i : Int))) ↔ p (rd L (x + i)) := by
 constructor
 ·rintro ⟨h, hq⟩; rw [rest_rd h0 h1 i h] at hq; exact hq
 ·intro h
  by_cases h2 : i = (rest L x).length
  ·rw [rest_end hT h0 h1 i h2] at h; exact absurd h hp
  ·exact ⟨by omega, by rw [rest_rd h0 h1 i (by omega)]; exact h⟩
theorem isD_dig (c : Int) : isD c = true ↔ isDig c := isD_iff c
theorem dEnd_run (hT : Txt L) (h0 : 0 ≤ x) (h1 : x < L.length) : ∀ (d i : Nat), i + d = (rest L x).length → RunTo isDig L (x + i) (x + (dEnd (rest L x) i : Nat)) := by
 have hl := rest_len h0 h1
 intro d
 induction d with
 | zero =>
  intro i hi
  rw [dEnd_end _ i (by omega)]
  refine ⟨Int.le_refl _, by omega, fun k _ _ => by omega, ?_⟩
  rw [rest_end hT h0 h1 i (by omega)]
  decide
 | succ d ih =>
  intro i hi
  rw [dEnd_step _ i (by omega), rest_rd h0 h1 i (by omega)]
  by_cases hd : isD (rd L (x + i)) = true
  ·rw [if_pos hd]
   have hr := ih (i + 1) (by omega)
   refine ⟨by have := hr.le; omega, hr.lt, fun k hk hk2 => ?_, hr.stop⟩
   by_cases hki : k = x + i
   ·rw [hki]; exact (isD_dig _).1 hd
   ·exact hr.all k (by omega) hk2
  ·rw [if_neg hd]
   exact ⟨Int.le_refl _, by omega, fun k _ _ => by omega, fun h => hd ((isD_dig _).2 h)⟩
theorem dEnd_at (hT : Txt L) (h0 : 0 ≤ x) (h1 : x < L.length) (i : Nat) (hi : i ≤ (rest L x).length) : RunTo isDig L (x + i) (x + (dEnd (rest L x) i : Nat)) := dEnd_run hT h0 h1 ((rest L x).length - i) i (by omega)
theorem dEnd_eq (hT : Txt L) (h0 : 0 ≤ x) (h1 : x < L.length) (i : Nat) (hi : i ≤ (rest L x).length) : dEnd (rest L x) i = i ↔ ¬ isDig (rd L (x + i)) := by
 have hr := dEnd_at hT h0 h1 i hi
 constructor
 ·intro h; have := hr.stop; rw [h] at this; exact this
 ·intro h
  have h2 := hr.le
  by_cases h3 : dEnd (rest L x) i = i
  ·exact h3
  ·exact absurd (hr.all (x + i) (Int.le_refl _) (by omega)) h
/-- What a piece of the number's rule tells, from a place and state on. -/
def NR (q : ByteArray → ByteArray) (L : List Int) (x : Int) (ph : Ph) (i : Nat) (p : Nat × Nat) : Prop :=
 p.1 ≤ (rest L x).length ∧ ((p.2 = 0 ∧ i ≤ p.1 ∧ Ends q L ph (x + i) (x + (p.1 : Nat))) ∨ (p.2 ≠ 0 ∧ ∃ s, Bad q L ph (x + i) s))
theorem NR.same {i j : Nat} {ph2 : Ph} {p : Nat × Nat} (h : NR q L x ph2 j p) (hs : Same q L ph (x + i) ph2 (x + j)) (hij : i ≤ j) : NR q L x ph i p := by
 rcases h with ⟨hb, ⟨h2, hj, he⟩ | ⟨h2, s, hs2⟩⟩
 ·exact ⟨hb, .inl ⟨h2, by omega, hs.ends he⟩⟩
 ·exact ⟨hb, .inr ⟨h2, s, hs.bad hs2⟩⟩
theorem NR.lt {i : Nat} {p : Nat × Nat} (h : NR q L x ph i p) : p.1 ≤ (rest L x).length := h.1
theorem n6 (hT : Txt L) (h0 : 0 ≤ x) (h1 : x < L.length) (i : Nat) (hi : i ≤ (rest L x).length) (hd : isDig (rd L (x + i)) → Same q L ph (x + i) .exp (x + i + 1)) (hb : ¬ isDig (rd L (x + i)) → ∃ s, Bad q L ph (x + i) s) : NR q L x ph i (r6 (rest L x) i) := by
 have hl := rest_len h0 h1
 have hr := dEnd_at hT h0 h1 i hi
 unfold r6
 by_cases h : dEnd (rest L x) i = i
 ·rw [if_pos h]
  exact ⟨hi, .inr ⟨by show (3 : Nat) ≠ 0; decide, hb ((dEnd_eq hT h0 h1 i hi).1 h)⟩⟩
 ·rw [if_neg h]
  have hdg : isDig (rd L (x + i)) := by
   by_cases hd2 : isDig (rd L (x + i))
   ·exact hd2
   ·exact absurd ((dEnd_eq hT h0 h1 i hi).2 hd2) h
  have hle := hr.le
  refine ⟨by have := hr.lt; show dEnd (rest L x) i ≤ _; omega, .inl ⟨rfl, by show i ≤ dEnd (rest L x) i; omega, ?_⟩⟩
  refine (hd hdg).ends ((exp_digs hT (by omega) (hr.from hdg)).ends ?_)
  exact exp_ends hT (by omega) hr.lt hr.stop
theorem n5 (hT : Txt L) (h0 : 0 ≤ x) (h1 : x < L.length) (i : Nat) (hi : i < (rest L x).length) : NR q L x .e (i + 1) (if i + 1 < (rest L x).length ∧ (rd (rest L x) ((i + 1 : Nat) : Int) = 43 ∨ rd (rest L x) ((i + 1 : Nat) : Int) = 45) then r6 (rest L x) (i + 2) else r6 (rest L x) (i + 1)) := by
 have hl := rest_len h0 h1
 have hc := rest_is hT h0 h1 (i + 1) (by omega) (fun c => c = 43 ∨ c = 45) (by decide)
 have ex : x + ((i + 1 : Nat) : Int) = x + i + 1 := by omega
 by_cases h : rd L (x + ((i + 1 : Nat) : Int)) = 43 ∨ rd L (x + ((i + 1 : Nat) : Int)) = 45
 ·rw [if_pos (hc.2 h)]
  have hlt := (hc.2 h).1
  refine NR.same (ph2 := .sign) (j := i + 2) (n6 hT h0 h1 (i + 2) (by omega) (fun hd => sign_dig hT (by omega) (by omega) hd) (fun hd => ⟨_, sign_bad hT (by omega) (by omega) hd⟩)) ?_ (by omega)
  have := e_sign (q := q) hT (x := x + ((i + 1 : Nat) : Int)) (by omega) (by omega) h
  rw [show x + ((i + 1 : Nat) : Int) + 1 = x + ((i + 2 : Nat) : Int) by omega] at this
  exact this
 ·rw [if_neg (fun h2 => h (hc.1 h2))]
  exact n6 hT h0 h1 (i + 1) (by omega) (fun hd => e_dig hT (by omega) (by omega) hd) (fun hd => ⟨_, e_bad hT (by omega) (by omega) hd (fun h2 => h (.inl h2)) (fun h2 => h (.inr h2))⟩)
theorem n4 (hT : Txt L) (h0 : 0 ≤ x) (h1 : x < L.length) (i : Nat) (hi : i ≤ (rest L x).length) (he : (rd L (x + i) = 101 ∨ rd L (x + i) = 69) → Same q L ph (x + i) .e (x + i + 1)) (hn : ¬ (rd L (x + i) = 101 ∨ rd L (x + i) = 69) → Ends q L ph (x + i) (x + i)) : NR q L x ph i (r4 (rest L x) i) := by
 have hc := rest_is hT h0 h1 i hi (fun c => c = 101 ∨ c = 69) (by decide)
 unfold r4 r5
 by_cases h : rd L (x + i) = 101 ∨ rd L (x + i) = 69
 ·rw [if_pos (decide_eq_true (hc.2 h))]
  exact NR.same (n5 hT h0 h1 i (hc.2 h).1) (by have := he h; rw [show x + (i : Int) + 1 = x + ((i + 1 : Nat) : Int) by omega] at this; exact this) (by omega)
 ·rw [if_neg (by rw [decide_eq_true_iff]; exact fun h2 => h (hc.1 h2))]
  exact ⟨hi, .inl ⟨rfl, Nat.le_refl _, hn h⟩⟩
theorem n2 (hT : Txt L) (h0 : 0 ≤ x) (h1 : x < L.length) (i : Nat) (hi : i ≤ (rest L x).length) (hp : rd L (x + i) = 46 → Same q L ph (x + i) .point (x + i + 1))
  (he : (rd L (x + i) = 101 ∨ rd L (x + i) = 69) → Same q L ph (x + i) .e (x + i + 1)) (hn : rd L (x + i) ≠ 46 → ¬ (rd L (x + i) = 101 ∨ rd L (x + i) = 69) → Ends q L ph (x + i) (x + i)) : NR q L x ph i (r2 (rest L x) i) := by
 have hl := rest_len h0 h1
 have hc := rest_is hT h0 h1 i hi (fun c => c = 46) (by decide)
 unfold r2 r3
 by_cases h : rd L (x + i) = 46
 ·rw [if_pos (decide_eq_true (hc.2 h))]
  have hlt := (hc.2 h).1
  have hs := hp h
  rw [show x + (i : Int) + 1 = x + ((i + 1 : Nat) : Int) by omega] at hs
  refine NR.same (ph2 := .point) (j := i + 1) ?_ hs (by omega)
  have hr := dEnd_at hT h0 h1 (i + 1) (by omega)
  by_cases h2 : dEnd (rest L x) (i + 1) = i + 1
  ·rw [if_pos h2]
   exact ⟨by show i + 1 ≤ _; omega, .inr ⟨by show (2 : Nat) ≠ 0; decide, _, point_bad hT (by omega) (by omega) ((dEnd_eq hT h0 h1 (i + 1) (by omega)).1 h2)⟩⟩
  ·rw [if_neg h2]
   have hdg : isDig (rd L (x + ((i + 1 : Nat) : Int))) := by
    by_cases hd2 : isDig (rd L (x + ((i + 1 : Nat) : Int)))
    ·exact hd2
    ·exact absurd ((dEnd_eq hT h0 h1 (i + 1) (by omega)).2 hd2) h2
   have hle := hr.le
   have hlt2 := hr.lt
   refine NR.same (ph2 := .frac) (j := dEnd (rest L x) (i + 1)) (n4 hT h0 h1 _ (by omega) (fun h3 => frac_e hT (by omega) hlt2 h3) (fun h3 => frac_ends hT (by omega) hlt2 hr.stop (fun h4 => h3 (.inl h4)) (fun h4 => h3 (.inr h4)))) ?_ (by omega)
   exact (point_dig hT (by omega) (by omega) hdg).trans (frac_digs hT (by omega) (hr.from hdg))
 ·rw [if_neg (by rw [decide_eq_true_iff]; exact fun h2 => h (hc.1 h2))]
  exact n4 hT h0 h1 i hi he (hn h)
theorem n1 (hT : Txt L) (h0 : 0 ≤ x) (h1 : x < L.length) (i : Nat) (hi : i ≤ (rest L x).length) (hz : rd L (x + i) = 48 → Same q L ph (x + i) .zero (x + i + 1)) (hw : isDig (rd L (x + i)) → rd L (x + i) ≠ 48 → Same q L ph (x + i) .whole (x + i + 1))
  (hb : ¬ isDig (rd L (x + i)) → ∃ s, Bad q L ph (x + i) s) : NR q L x ph i (r1 (rest L x) i) ∧ ((r1 (rest L x) i).2 = 0 → i < (r1 (rest L x) i).1) := by
 have hl := rest_len h0 h1
 have hr := dEnd_at hT h0 h1 i hi
 unfold r1
 by_cases h : dEnd (rest L x) i = i
 ·rw [if_pos h]
  exact ⟨⟨hi, .inr ⟨by show (1 : Nat) ≠ 0; decide, hb ((dEnd_eq hT h0 h1 i hi).1 h)⟩⟩, fun h2 => by cases h2⟩
 ·rw [if_neg h]
  have hdg : isDig (rd L (x + i)) := by
   by_cases hd2 : isDig (rd L (x + i))
   ·exact hd2
   ·exact absurd ((dEnd_eq hT h0 h1 i hi).2 hd2) h
  have hin := (rest_is hT h0 h1 i hi isDig (by decide)).2 hdg
  rw [rest_rd h0 h1 i hin.1]
  have hle := hr.le
  have hlt := hr.lt
  by_cases hz2 : rd L (x + i) = 48
  ·rw [if_pos hz2]
   have hn : NR q L x .zero (i + 1) (r2 (rest L x) (i + 1)) := n2 hT h0 h1 (i + 1) (by omega) (fun h3 => zero_dot hT (by omega) (by omega) h3) (fun h3 => zero_e hT (by omega) (by omega) h3) (fun h3 h4 => zero_ends hT (by omega) (by omega) h3 (fun h5 => h4 (.inl h5)) (fun h5 => h4 (.inr h5)))
   refine ⟨hn.same (by have := hz hz2; rw [show x + (i : Int) + 1 = x + ((i + 1 : Nat) : Int) by omega] at this; exact this) (by omega), fun h2 => ?_⟩
   rcases hn.2 with ⟨_, h3, _⟩ | ⟨h3, _⟩
   ·omega
   ·exact absurd h2 h3
  ·rw [if_neg hz2]
   have hn : NR q L x .whole (dEnd (rest L x) i) (r2 (rest L x) (dEnd (rest L x) i)) := n2 hT h0 h1 _ (by omega) (fun h3 => whole_dot hT (by omega) hlt h3) (fun h3 => whole_e hT (by omega) hlt h3) (fun h3 h4 => whole_ends hT (by omega) hlt hr.stop h3 (fun h5 => h4 (.inl h5)) (fun h5 => h4 (.inr h5)))
   refine ⟨hn.same ((hw hdg hz2).trans (whole_digs hT (by omega) (hr.from hdg))) (by omega), fun h2 => ?_⟩
   rcases hn.2 with ⟨_, h3, _⟩ | ⟨h3, _⟩
   ·omega
   ·exact absurd h2 h3
theorem begin_minus (q : ByteArray → ByteArray) (st : List Br) : step q 45 .val st = .ok (.minus, st) := rfl
theorem begin_zero (q : ByteArray → ByteArray) (st : List Br) : step q 48 .val st = .ok (.zero, st) := rfl
theorem begin_whole (q : ByteArray → ByteArray) (c : Int) (st : List Br) (hd : isDig c) (hz : c ≠ 48) : step q c .val st = .ok (.whole, st) := by
 show between q c .val st = _
 unfold isDig at hd
 unfold between begin_
 rw [if_neg (by unfold isBlank; omega)]
 show (if c = 123 then _ else _) = _
 rw [if_neg (by omega), if_neg (by omega), if_neg (by omega), if_neg (by omega), if_neg hz, if_pos (by unfold isDig; omega)]
/-- A number of the pass is one of the scanner. -/
theorem num_all (hT : Txt L) (h0 : 0 ≤ x) (h1 : x < L.length) (hc : rd L x = 45 ∨ isDig (rd L x)) : NR q L x .val 0 (scanNum (rest L x)) ∧ ((scanNum (rest L x)).2 = 0 → 0 < (scanNum (rest L x)).1) := by
 have hin := hT.inside h0 h1 (by unfold isDig at hc; omega)
 have hl := rest_len h0 h1
 have hm := rest_is hT h0 h1 0 (Nat.zero_le _) (fun c => c = 45) (by decide)
 have ex : x + ((0 : Nat) : Int) = x := by omega
 have e0 : rd (rest L x) ((0 : Nat) : Int) = rd (rest L x) 0 := rfl
 rw [ex, e0] at hm
 unfold scanNum
 by_cases h : rd L x = 45
 ·rw [if_pos (hm.2 h)]
  have hn := n1 (q := q) (ph := .minus) hT h0 h1 1 (by omega) (fun h3 => minus_zero hT (by omega) (by omega) h3) (fun h3 h4 => minus_dig hT (by omega) (by omega) h3 h4) (fun h3 => ⟨_, minus_bad hT (by omega) (by omega) h3⟩)
  refine ⟨hn.1.same ?_ (by omega), fun h2 => by have := hn.2 h2; omega⟩
  rw [ex]
  exact same_step h0 hin (fun st => by rw [h]; exact begin_minus q st) rfl
 ·rw [if_neg (fun h2 => h (hm.1 h2))]
  have hd : isDig (rd L x) := by rcases hc with h2 | h2; exact absurd h2 h; exact h2
  refine n1 hT h0 h1 0 (by omega) (fun h3 => ?_) (fun h3 h4 => ?_) (fun h3 => absurd (by rw [ex]; exact hd) h3)
  ·rw [ex] at h3 ⊢
   exact same_step h0 hin (fun st => by rw [h3]; exact begin_zero q st) rfl
  ·rw [ex] at h3 h4 ⊢
   exact same_step h0 hin (fun st => begin_whole q _ st h3 h4) rfl
theorem fnum_ok {e : Int} {T : List Int} (hT : Txt L) (h0 : 0 ≤ x) (h1 : x < L.length) (hc : rd L x = 45 ∨ isDig (rd L x)) (h : fnum L x = some (e, T)) : x < e ∧ e < L.length ∧ T = seg L x e ∧ Ends q L .val x e := by
 have hn := num_all (q := q) hT h0 h1 hc
 have hl := rest_len h0 h1
 unfold fnum at h
 split at h
 ·rename_i h2
  cases h
  have h3 := hn.2 h2
  have h4 := hn.1.1
  rcases hn.1.2 with ⟨_, _, he⟩ | ⟨h5, _⟩
  ·rw [show x + ((0 : Nat) : Int) = x by omega] at he
   exact ⟨by omega, by omega, rfl, he⟩
  ·exact absurd h2 h5
 ·cases h
theorem fnum_none (hT : Txt L) (h0 : 0 ≤ x) (h1 : x < L.length) (hc : rd L x = 45 ∨ isDig (rd L x)) (h : fnum L x = none) : ∃ s, Bad q L .val x s := by
 have hn := num_all (q := q) hT h0 h1 hc
 unfold fnum at h
 split at h
 ·cases h
 ·rename_i h2
  rcases hn.1.2 with ⟨h5, _⟩ | ⟨_, s, hs⟩
  ·exact absurd h5 h2
  ·rw [show x + ((0 : Nat) : Int) = x by omega] at hs
   exact ⟨s, hs⟩
end
end Go.Proofs.YtbikiibpjdiaaaaDoor.Err
/- The pass takes just what the scanner takes. -/
namespace Go.Proofs.YtbikiibpjdiaaaaDoor.Err
open Go.RowKit Go.Proofs.YtbikiibpjdiaaaaDoorW.PrintWords Go.Proofs.YtbikiibpjdiaaaaDoorW.PrintLast Go.Proofs.YtbikiibpjdiaaaaDoorW.PrintMore
open Go.Proofs.YtbikiibpjdiaaaaDoor.Dig
set_option linter.unusedVariables false
section
variable {q : ByteArray → ByteArray} {L : List Int} {x : Int} {esc : Bool} {ind : Ind} {ph : Ph} {st : List Br}
theorem three {c : Int} (hT : Txt L) (h0 : 0 ≤ x) (h : lineEnd L x) (st : List Br) : out q L .text st x = out q L .text st (x + 3) ∧ x + 3 < L.length := by
 obtain ⟨a, b, c2, d⟩ := h
 have t1 := txt_other (q := q) (st := st) hT (x := x) h0 (by omega) (by omega) (by omega) (by omega)
 have t2 := txt_other (q := q) (st := st) hT (x := x + 1) (by omega) (by omega) (by omega) (by omega) (by omega)
 have e2 : x + 1 + 1 = x + 2 := by omega
 rw [e2] at t2
 have t3 := txt_other (q := q) (st := st) hT (x := x + 2) (by omega) (by omega) (by omega) (by omega) (by omega)
 have e3 : x + 2 + 1 = x + 3 := by omega
 rw [e3] at t3
 exact ⟨t1.1.trans (t2.1.trans t3.1), t3.2⟩
theorem escF_some {d : Int} (hT : Txt L) (h0 : 0 ≤ x) (h1 : x < L.length) (h : escF L x = some d) (st : List Br) : out q L .esc st x = out q L .text st d := by
 have hg := escF_gt hT h0 h1 h
 unfold escF at h
 split at h
 ·rename_i hc
  cases h
  exact (esc_ok hT h0 h1 hc).1
 ·split at h
  ·rename_i hc
   cases h
   have t1 := esc_u (q := q) (st := st) hT h0 h1 hc.1
   have t2 := dig_ok (q := q) (st := st) (k := 0) hT (x := x + 1) (by omega) (by omega) hc.2.1
   have t3 := dig_ok (q := q) (st := st) (k := 1) hT (x := x + 2) (by omega) (by omega) hc.2.2.1
   have t4 := dig_ok (q := q) (st := st) (k := 2) hT (x := x + 3) (by omega) (by omega) hc.2.2.2.1
   have t5 := dig_ok (q := q) (st := st) (k := 3) hT (x := x + 4) (by omega) (by omega) hc.2.2.2.2
   rw [show x + 1 + 1 = x + 2 by omega] at t2
   rw [show x + 2 + 1 = x + 3 by omega] at t3
   rw [show x + 3 + 1 = x + 4 by omega] at t4
   rw [show x + 4 + 1 = x + 5 by omega] at t5
   exact t1.1.trans (t2.1.trans (t3.1.trans (t4.1.trans t5.1)))
  ·cases h
theorem escF_none (hT : Txt L) (h0 : 0 ≤ x) (h1 : x < L.length) (h : escF L x = none) (st : List Br) : ∃ s, out q L .esc st x = .fault s := by
 unfold escF at h
 split at h
 ·cases h
 rename_i hc
 by_cases hu : rd L x = 117
 ·have t1 := esc_u (q := q) (st := st) hT h0 h1 hu
  rw [t1.1]
  by_cases a1 : isHex (rd L (x + 1))
  ·have t2 := dig_ok (q := q) (st := st) (k := 0) hT (x := x + 1) (by omega) t1.2 a1
   rw [show x + 1 + 1 = x + 2 by omega] at t2
   rw [t2.1]
   by_cases a2 : isHex (rd L (x + 2))
   ·have t3 := dig_ok (q := q) (st := st) (k := 1) hT (x := x + 2) (by omega) t2.2 a2
    rw [show x + 2 + 1 = x + 3 by omega] at t3
    refine ⟨(out q L (.dig 2) st (x + 3) |> fun o => match o with | .fault s => s | .done _ => ⟨ByteArray.empty, 0, false, 0⟩), ?_⟩
    show out q L (.dig 1) st (x + 2) = _
    have t3' : out q L (.dig 1) st (x + 2) = out q L (.dig 2) st (x + 3) := t3.1
    rw [t3']
    by_cases a3 : isHex (rd L (x + 3))
    ·have t4 := dig_ok (q := q) (st := st) (k := 2) hT (x := x + 3) (by omega) t3.2 a3
     rw [show x + 3 + 1 = x + 4 by omega] at t4
     have t4' : out q L (.dig 2) st (x + 3) = out q L (.dig 3) st (x + 4) := t4.1
     rw [t4']
     by_cases a4 : isHex (rd L (x + 4))
     ·exfalso
      rw [if_pos ⟨hu, a1, a2, a3, a4⟩] at h
      cases h
     ·rw [dig_bad hT (by omega) t4.2 a4]
    ·rw [dig_bad hT (by omega) t3.2 a3]
   ·exact ⟨_, dig_bad hT (by omega) t2.2 a2⟩
  ·exact ⟨_, dig_bad hT (by omega) t1.2 a1⟩
 ·exact ⟨_, esc_bad hT h0 h1 hc hu⟩
theorem fs_ok (hT : Txt L) : ∀ (n : Nat) (x e : Int) (T : List Int), 0 ≤ x → x < L.length → fs L esc n x = some (e, T) → Ends q L .text x e := by
 intro n
 induction n with
 | zero => intro x e T h0 h1 h; cases h
 | succ n ih =>
  intro x e T h0 h1 h st
  unfold fs at h
  split at h
  ·rename_i hc
   cases h
   exact txt_quote hT h0 h1 hc
  split at h
  ·rename_i hc
   have t1 := txt_bs (q := q) (st := st) hT h0 h1 hc
   split at h
   ·cases h
   ·rename_i d hd
    have hg := escF_gt hT (by omega) t1.2 hd
    obtain ⟨⟨e1, T1⟩, hr, he⟩ := Option.map_eq_some_iff.1 h
    cases he
    rw [t1.1, escF_some hT (by omega) t1.2 hd]
    exact ih d e1 T1 (by omega) hg.2 hr st
  split at h
  ·cases h
  ·rename_i c1 c2 c3
   have t1 := txt_other (q := q) (st := st) hT h0 h1 c3 c1 c2
   split at h
   ·obtain ⟨⟨e1, T1⟩, hr, he⟩ := Option.map_eq_some_iff.1 h
    cases he
    rw [t1.1]
    exact ih (x + 1) e1 T1 (by omega) t1.2 hr st
   split at h
   ·rename_i hl
    have t3 := three (q := q) (c := 0) hT h0 hl.2 st
    obtain ⟨⟨e1, T1⟩, hr, he⟩ := Option.map_eq_some_iff.1 h
    cases he
    rw [t3.1]
    exact ih (x + 3) e1 T1 (by omega) t3.2 hr st
   ·obtain ⟨⟨e1, T1⟩, hr, he⟩ := Option.map_eq_some_iff.1 h
    cases he
    rw [t1.1]
    exact ih (x + 1) e1 T1 (by omega) t1.2 hr st
theorem fs_none (hT : Txt L) : ∀ (n : Nat) (x : Int), 0 ≤ x → x < L.length → (L.length : Int) - x ≤ n → fs L esc n x = none → ∀ st, ∃ s, out q L .text st x = .fault s := by
 intro n
 induction n with
 | zero => intro x h0 h1 hn; omega
 | succ n ih =>
  intro x h0 h1 hn h st
  unfold fs at h
  split at h
  ·cases h
  rename_i c1
  split at h
  ·rename_i hc
   have t1 := txt_bs (q := q) (st := st) hT h0 h1 hc
   rw [t1.1]
   split at h
   ·rename_i hd
    exact escF_none hT (by omega) t1.2 hd st
   ·rename_i d hd
    have hg := escF_gt hT (by omega) t1.2 hd
    rw [escF_some hT (by omega) t1.2 hd]
    exact ih d (by omega) hg.2 (by omega) (Option.map_eq_none_iff.1 h) st
  rename_i c2
  split at h
  ·rename_i c3
   exact ⟨_, txt_low hT h0 h1 c3⟩
  ·rename_i c3
   have t1 := txt_other (q := q) (st := st) hT h0 h1 c3 c1 c2
   split at h
   ·rw [t1.1]
    exact ih (x + 1) (by omega) t1.2 (by omega) (Option.map_eq_none_iff.1 h) st
   split at h
   ·rename_i hl
    have t3 := three (q := q) (c := 0) hT h0 hl.2 st
    rw [t3.1]
    exact ih (x + 3) (by omega) t3.2 (by omega) (Option.map_eq_none_iff.1 h) st
   ·rw [t1.1]
    exact ih (x + 1) (by omega) t1.2 (by omega) (Option.map_eq_none_iff.1 h) st
/-- A word of letters. -/
structure Lit_ (l : List Int) : Prop where
 len : 2 ≤ l.length
 ok : ∀ k, k < l.length → l.getD k 0 ≠ 0 ∧ l.getD k 0 ≠ 32
theorem lit_true : Lit_ lTrue := ⟨by decide, by decide⟩
theorem lit_false : Lit_ lFalse := ⟨by decide, by decide⟩
theorem lit_null : Lit_ lNull := ⟨by decide, by decide⟩
theorem Lit_.pos {l : List Int} (h : Lit_ l) : ∀ c ∈ l, c ≠ 0 := by
 intro c hc
 obtain ⟨k, hk, rfl⟩ := List.getElem_of_mem hc
 have := (h.ok k hk).1
 rw [List.getD_eq_getElem?_getD, List.getElem?_eq_getElem hk] at this
 exact this
theorem word_ends {l : List Int} (hl : Lit_ l) (hT : Txt L) (h0 : 0 ≤ x) (hin : x + l.length < L.length) (hr : ∀ k, k < l.length → rd L (x + k) = l.getD k 0) : ∀ m k : Nat, k + m = l.length → 1 ≤ m → ∀ st, out q L (.word l k) st (x + k) = contO q L st (x + l.length) := by
 intro m
 induction m with
 | zero => intro k hk hm; omega
 | succ m ih =>
  intro k hk hm st
  by_cases h : k + 1 = l.length
  ·rw [(word_last hT (by omega) (by omega) (hl.ok k (by omega)).1 (hr k (by omega)) h).1]
   congr 1
   omega
  ·have t := (word_next (q := q) (st := st) hT (x := x + k) (by omega) (by omega) (hl.ok k (by omega)).1 (hr k (by omega)) (by omega)).1
   rw [t, show x + (k : Int) + 1 = x + ((k + 1 : Nat) : Int) by omega]
   exact ih (k + 1) (by omega) (by omega) st
theorem word_no {l : List Int} (hl : Lit_ l) (hT : Txt L) (h0 : 0 ≤ x) : ∀ m k : Nat, k + m = l.length → x + k < L.length → (∃ j, k ≤ j ∧ j < l.length ∧ rd L (x + j) ≠ l.getD j 0) → ∀ st, ∃ s, out q L (.word l k) st (x + k) = .fault s := by
 intro m
 induction m with
 | zero => intro k hk _ ⟨j, h2, h3, _⟩; omega
 | succ m ih =>
  intro k hk hlt ⟨j, h2, h3, hne⟩ st
  by_cases hc : rd L (x + k) = l.getD k 0
  ·have hjk : j ≠ k := fun e => hne (by rw [e]; exact hc)
   have t := word_next (q := q) (st := st) hT (x := x + k) (by omega) hlt (hl.ok k (by omega)).1 hc (by omega)
   rw [t.1, show x + (k : Int) + 1 = x + ((k + 1 : Nat) : Int) by omega]
   exact ih (k + 1) (by omega) (by omega) ⟨j, by omega, h3, hne⟩ st
  ·exact ⟨_, word_bad hT (by omega) hlt (hl.ok k (by omega)).2 hc⟩
theorem flit_ok {l T : List Int} {e : Int} (hl : Lit_ l) (hT : Txt L) (h0 : 0 ≤ x) (h1 : x < L.length) (hv : ∀ st, out q L .val st x = out q L (.word l 1) st (x + 1)) (h : flit L x l = some (e, T)) : Ends q L .val x e := by
 have hg := flit_gt hT h0 h1 (by have := hl.len; omega) hl.pos h
 unfold flit at h
 split at h
 ·rename_i hs
  cases h
  intro st
  have hr : ∀ k, k < l.length → rd L (x + k) = l.getD k 0 := fun k hk => by
   have := seg_get (L := L) x (x + l.length) k h0 (by omega) (by omega)
   rw [hs] at this
   rw [List.getD_eq_getElem?_getD, this]
   rfl
  rw [hv]
  exact word_ends hl hT h0 hg.2 hr (l.length - 1) 1 (by have := hl.len; omega) (by have := hl.len; omega) st
 ·cases h
theorem flit_none {l : List Int} (hl : Lit_ l) (hT : Txt L) (h0 : 0 ≤ x) (h1 : x < L.length) (hc : rd L x = l.getD 0 0) (hv : ∀ st, out q L .val st x = out q L (.word l 1) st (x + 1)) (h : flit L x l = none) (st : List Br) : ∃ s, out q L .val st x = .fault s := by
 have hl2 := hl.len
 have hin := hT.inside h0 h1 (by rw [hc]; exact (hl.ok 0 (by omega)).1)
 unfold flit at h
 split at h
 ·cases h
 ·rename_i hs
  rw [hv]
  refine word_no hl hT h0 (l.length - 1) 1 (by omega) (by omega) ?_ st
  by_cases hex : ∃ j, 1 ≤ j ∧ j < l.length ∧ rd L (x + j) ≠ l.getD j 0
  ·exact hex
  ·exfalso
   have hall : ∀ k : Nat, k < l.length → rd L (x + k) = l.getD k 0 := fun k hk => by
    by_cases h3 : rd L (x + k) = l.getD k 0
    ·exact h3
    ·by_cases hk0 : k = 0
     ·subst hk0; exact absurd (by rw [show x + ((0 : Nat) : Int) = x by omega]; exact hc) h3
     ·exact absurd ⟨k, by omega, hk, h3⟩ hex
   have hlt : x + l.length < L.length := by
    by_cases h4 : x + l.length < L.length
    ·exact h4
    ·exfalso
     obtain ⟨k, hk⟩ : ∃ k : Nat, x + k = (L.length : Int) - 1 := ⟨((L.length : Int) - 1 - x).toNat, by omega⟩
     have h5 := hall k (by omega)
     rw [hk, hT.last] at h5
     exact (hl.ok k (by omega)).1 h5.symm
   refine hs ?_
   apply List.ext_getElem?
   intro k
   by_cases hk : k < l.length
   ·rw [seg_get x (x + l.length) k h0 (by omega) (by omega), hall k hk, List.getD_eq_getElem?_getD, List.getElem?_eq_getElem hk]
    rfl
   ·rw [List.getElem?_eq_none (by rw [seg_len x (x + l.length) h0 (by omega) (by omega)]; omega), List.getElem?_eq_none (by omega)]
def phM : Md → Ph
 | .val => .val
 | .key => .name
 | .item => .val
def stM : Md → List Br → List Br
 | .val, st => st
 | .key, st => .obj :: st
 | .item, st => .arr :: st
theorem cont_cons (q : ByteArray → ByteArray) (L : List Int) (b : Br) (r : List Br) (e : Int) : contO q L (b :: r) e = out q L (closed (b :: r)).1 (closed (b :: r)).2 e := by
 unfold contO
 rw [closed_all (b :: r) (by simp)]
 exact if_neg (by simp)
theorem skp_out (hT : Txt L) (ha : airy ph = true) (h0 : 0 ≤ x) (h1 : x < L.length) (st : List Br) : out q L ph st x = out q L ph st (skp L x) := ws_out hT ha h0 (skp_run hT h0 h1) st
theorem skp_stop (hT : Txt L) (h0 : 0 ≤ x) (h1 : x < L.length) : ¬ isBlank (rd L (skp L x)) := (skp_run hT h0 h1).stop
/-- A step between values that opens or goes on. -/
theorem air_go {c : Int} {ph' : Ph} {st' : List Br} (hT : Txt L) (ha : airy ph = true) (h0 : 0 ≤ x) (h1 : x < L.length) (hc : rd L x = c) (hz : c ≠ 0) (hs : between q c ph st = .ok (ph', st')) (hal : isAll ph' = false) : out q L ph st x = out q L ph' st' (x + 1) ∧ x + 1 < L.length := by
 have hin := hT.inside h0 h1 (by omega)
 exact ⟨air_ok hT ha h0 hin (by rw [hc]; exact hs) hal, by omega⟩
theorem air_end {c : Int} (hT : Txt L) (ha : airy ph = true) (h0 : 0 ≤ x) (h1 : x < L.length) (hc : rd L x = c) (hz : c ≠ 0) (hs : between q c ph st = .ok (closed st.tail)) : out q L ph st x = contO q L st.tail (x + 1) ∧ x + 1 < L.length := by
 have hin := hT.inside h0 h1 (by omega)
 exact ⟨air_shut hT ha h0 hin (by rw [hc]; exact hs), by omega⟩
theorem air_no {m : ByteArray × Bool} (hT : Txt L) (ha : airy ph = true) (h0 : 0 ≤ x) (h1 : x < L.length) (hs : between q (rd L x) ph st = .error m) : ∃ s, out q L ph st x = .fault s := by
 by_cases h : x = (L.length : Int) - 1
 ·exact ⟨_, out_stop hT h ((airy_all ha).2.2 st)⟩
 ·exact ⟨_, out_err h0 (by omega) (by rw [step_airy q _ st ha]; exact hs) ((airy_all ha).2.2 st)⟩
theorem colon_no (hb : ¬ isBlank (rd L x)) (hc : rd L x ≠ 58) : between q (rd L x) .colon st = .error (badWords q (rd L x) wAfterKey, false) := by unfold between; rw [if_neg hb]; exact if_neg hc
theorem memb_no (hb : ¬ isBlank (rd L x)) (hc : rd L x ≠ 44) (hd : rd L x ≠ 125) : between q (rd L x) .memb st = .error (badWords q (rd L x) wAfterPair, false) := by
 unfold between; rw [if_neg hb]; show (if rd L x = 44 then _ else _) = _; rw [if_neg hc, if_neg hd]
theorem item_no (hb : ¬ isBlank (rd L x)) (hc : rd L x ≠ 44) (hd : rd L x ≠ 93) : between q (rd L x) .item st = .error (badWords q (rd L x) wAfterElement, false) := by
 unfold between; rw [if_neg hb]; show (if rd L x = 44 then _ else _) = _; rw [if_neg hc, if_neg hd]
theorem name_no (hb : ¬ isBlank (rd L x)) (hc : rd L x ≠ 34) : between q (rd L x) .name st = .error (badWords q (rd L x) wKey, false) := by
 unfold between; rw [if_neg hb]; show nameOf q _ st = _; unfold nameOf; rw [if_neg hc]
theorem fstr_ok {e : Int} {T : List Int} (hT : Txt L) (h0 : 0 ≤ x) (h1 : x + 1 < L.length) (h : fstr L esc x = some (e, T)) : x + 1 < e ∧ e < L.length ∧ Ends q L .text (x + 1) e := by
 unfold fstr at h
 obtain ⟨⟨e1, T1⟩, hr, he⟩ := Option.map_eq_some_iff.1 h
 cases he
 have hg := fs_gt hT _ _ _ _ (by omega) h1 hr
 exact ⟨hg.1, hg.2, fs_ok hT _ _ _ _ (by omega) h1 hr⟩
theorem fstr_none (hT : Txt L) (h0 : 0 ≤ x) (h1 : x + 1 < L.length) (h : fstr L esc x = none) (st : List Br) : ∃ s, out q L .text st (x + 1) = .fault s := by
 unfold fstr at h
 exact fs_none hT _ _ (by omega) h1 (by omega) (Option.map_eq_none_iff.1 h) st
/-- What the pass takes ends where the scanner ends it. -/
theorem fv_ok (hT : Txt L) : ∀ (n : Nat) (md : Md) (x : Int) (d : Nat) (e : Int) (T : List Int), 0 ≤ x → x < L.length → fv L esc ind n md x d = some (e, T) → x < e ∧ e < L.length ∧ ∀ st, out q L (phM md) (stM md st) x = contO q L st e := by
 intro n
 induction n with
 | zero => intro md x d e T h0 h1 h; cases h
 | succ n ih =>
  intro md x d e T h0 h1 h
  cases md with
  | val =>
   unfold fv at h
   split at h
   ·rename_i hc
    have hv := fun st => val_obj (q := q) (st := st) hT h0 h1 hc
    have hx1 := (hv []).2
    have hk := skp_ge hT (x := x + 1) (by omega) hx1
    have hnb := skp_stop hT (x := x + 1) (by omega) hx1
    split at h
    ·cases h
    split at h
    ·rename_i _ hc2
     cases h
     have ha := fun st => air_end (q := q) (st := .obj :: st) (ph := .name0) hT rfl (by omega) hk.2 hc2 (by decide) rfl
     refine ⟨by omega, (ha []).2, fun st => ?_⟩
     exact (hv st).1.trans ((skp_out hT rfl (by omega) hx1 _).trans (ha st).1)
    ·rename_i _ hc2
     obtain ⟨⟨e1, T1⟩, hr, he⟩ := Option.map_eq_some_iff.1 h
     cases he
     have h2 := ih .key _ _ _ _ (by omega) hk.2 hr
     refine ⟨by omega, h2.2.1, fun st => ?_⟩
     exact (hv st).1.trans ((skp_out hT rfl (by omega) hx1 _).trans ((name0_name hT (by omega) hk.2 hnb hc2).trans (h2.2.2 st)))
   split at h
   ·rename_i hc
    have hv := fun st => val_arr (q := q) (st := st) hT h0 h1 hc
    have hx1 := (hv []).2
    have hk := skp_ge hT (x := x + 1) (by omega) hx1
    have hnb := skp_stop hT (x := x + 1) (by omega) hx1
    split at h
    ·cases h
    split at h
    ·rename_i _ hc2
     cases h
     have ha := fun st => air_end (q := q) (st := .arr :: st) (ph := .item0) hT rfl (by omega) hk.2 hc2 (by decide) rfl
     refine ⟨by omega, (ha []).2, fun st => ?_⟩
     exact (hv st).1.trans ((skp_out hT rfl (by omega) hx1 _).trans (ha st).1)
    ·rename_i _ hc2
     obtain ⟨⟨e1, T1⟩, hr, he⟩ := Option.map_eq_some_iff.1 h
     cases he
     have h2 := ih .item _ _ _ _ (by omega) hk.2 hr
     refine ⟨by omega, h2.2.1, fun st => ?_⟩
     exact (hv st).1.trans ((skp_out hT rfl (by omega) hx1 _).trans ((item0_val hT (by omega) hk.2 hnb hc2).trans (h2.2.2 st)))
   split at h
   ·rename_i hc
    have hv := fun st => val_text (q := q) (st := st) hT h0 h1 hc
    have hs := fstr_ok (q := q) hT h0 (hv []).2 h
    exact ⟨by omega, hs.2.1, fun st => (hv st).1.trans (hs.2.2 st)⟩
   split at h
   ·rename_i hc
    have hg := flit_gt hT h0 h1 (by decide) lit_true.pos h
    exact ⟨hg.1, hg.2, flit_ok lit_true hT h0 h1 (fun st => (val_t hT h0 h1 hc).1) h⟩
   split at h
   ·rename_i hc
    have hg := flit_gt hT h0 h1 (by decide) lit_false.pos h
    exact ⟨hg.1, hg.2, flit_ok lit_false hT h0 h1 (fun st => (val_f hT h0 h1 hc).1) h⟩
   split at h
   ·rename_i hc
    have hg := flit_gt hT h0 h1 (by decide) lit_null.pos h
    exact ⟨hg.1, hg.2, flit_ok lit_null hT h0 h1 (fun st => (val_n hT h0 h1 hc).1) h⟩
   split at h
   ·rename_i hc
    have hn := fnum_ok (q := q) hT h0 h1 hc h
    exact ⟨hn.1, hn.2.1, hn.2.2.2⟩
   ·cases h
  | key =>
   unfold fv at h
   split at h
   ·rename_i hc
    have hin := hT.inside h0 h1 (by omega)
    have hv := fun st => air_go (q := q) (c := 34) (ph := .name) (st := .obj :: st) (ph' := .text) (st' := .key :: st) hT rfl h0 h1 hc (by decide) rfl rfl
    split at h
    ·cases h
    rename_i e1 T1 hs1
    have hs := fstr_ok (q := q) hT h0 (hv []).2 hs1
    have hk := skp_ge hT (x := e1) (by omega) hs.2.1
    split at h
    ·rename_i hc2
     have ha := fun st => air_go (q := q) (c := 58) (ph := .colon) (st := .obj :: st) (ph' := .val) (st' := .obj :: st) hT rfl (by omega) hk.2 hc2 (by decide) rfl rfl
     have hk2 := skp_ge hT (x := skp L e1 + 1) (by omega) (ha []).2
     split at h
     ·cases h
     rename_i e2 T2 hv2
     have h2 := ih .val _ _ _ _ (by omega) hk2.2 hv2
     have hk3 := skp_ge hT (x := e2) (by omega) h2.2.1
     have hall : ∀ st, out q L .name (.obj :: st) x = out q L .memb (.obj :: st) (skp L e2) := fun st => by
      rw [(hv st).1, hs.2.2 (.key :: st), cont_cons]
      show out q L .colon (.obj :: st) e1 = _
      rw [skp_out hT rfl (by omega) hs.2.1, (ha st).1, skp_out hT rfl (by omega) (ha st).2]
      have h3 := h2.2.2 (.obj :: st)
      show out q L .val (.obj :: st) _ = _
      rw [show out q L .val (.obj :: st) (skp L (skp L e1 + 1)) = contO q L (.obj :: st) e2 from h3, cont_cons]
      exact skp_out hT rfl (by omega) h2.2.1 _
     split at h
     ·rename_i hc3
      obtain ⟨⟨e3, T3⟩, hr, he⟩ := Option.map_eq_some_iff.1 h
      cases he
      have hb := fun st => air_go (q := q) (c := 44) (ph := .memb) (st := .obj :: st) (ph' := .name) (st' := .obj :: st) hT rfl (by omega) hk3.2 hc3 (by decide) rfl rfl
      have hk4 := skp_ge hT (x := skp L e2 + 1) (by omega) (hb []).2
      have h4 := ih .key _ _ _ _ (by omega) hk4.2 hr
      refine ⟨by omega, h4.2.1, fun st => ?_⟩
      show out q L .name (.obj :: st) x = _
      rw [hall, (hb st).1, skp_out hT rfl (by omega) (hb st).2]
      exact h4.2.2 st
     split at h
     ·rename_i _ hc3
      cases h
      have hb := fun st => air_end (q := q) (c := 125) (ph := .memb) (st := .obj :: st) hT rfl (by omega) hk3.2 hc3 (by decide) rfl
      refine ⟨by omega, (hb []).2, fun st => ?_⟩
      show out q L .name (.obj :: st) x = _
      rw [hall]
      exact (hb st).1
     ·cases h
    ·cases h
   ·cases h
  | item =>
   unfold fv at h
   split at h
   ·cases h
   rename_i e1 T1 hv1
   have h2 := ih .val _ _ _ _ h0 h1 hv1
   have hk3 := skp_ge hT (x := e1) (by omega) h2.2.1
   have hall : ∀ st, out q L .val (.arr :: st) x = out q L .item (.arr :: st) (skp L e1) := fun st => by
    rw [show out q L .val (.arr :: st) x = contO q L (.arr :: st) e1 from h2.2.2 (.arr :: st), cont_cons]
    exact skp_out hT rfl (by omega) h2.2.1 _
   split at h
   ·rename_i hc3
    obtain ⟨⟨e3, T3⟩, hr, he⟩ := Option.map_eq_some_iff.1 h
    cases he
    have hb := fun st => air_go (q := q) (c := 44) (ph := .item) (st := .arr :: st) (ph' := .val) (st' := .arr :: st) hT rfl (by omega) hk3.2 hc3 (by decide) rfl rfl
    have hk4 := skp_ge hT (x := skp L e1 + 1) (by omega) (hb []).2
    have h4 := ih .item _ _ _ _ (by omega) hk4.2 hr
    refine ⟨by omega, h4.2.1, fun st => ?_⟩
    show out q L .val (.arr :: st) x = _
    rw [hall, (hb st).1, skp_out hT rfl (by omega) (hb st).2]
    exact h4.2.2 st
   split at h
   ·rename_i _ hc3
    cases h
    have hb := fun st => air_end (q := q) (c := 93) (ph := .item) (st := .arr :: st) hT rfl (by omega) hk3.2 hc3 (by decide) rfl
    refine ⟨by omega, (hb []).2, fun st => ?_⟩
    show out q L .val (.arr :: st) x = _
    rw [hall]
    exact (hb st).1
   ·cases h
end
end Go.Proofs.YtbikiibpjdiaaaaDoor.Err
