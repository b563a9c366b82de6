/- The scanner of texts, as plain Lean: a step for each byte, and what comes of all that are left. -/
import Derived.Test.YtfkagnpdapkaaaaDoorErr2
namespace Go.Proofs.YtfkagnpdapkaaaaDoor.Err
open Go.RowKit Go.Proofs.YtfkagnpdapkaaaaDoorW.PrintWords Go.Proofs.YtfkagnpdapkaaaaDoorW.PrintLast Go.Proofs.YtfkagnpdapkaaaaDoorW.PrintMore
set_option linter.unusedVariables false
/-- A bracket that is open; 'key': an object whose name is read. -/
inductive Br where
  | obj | arr | key
/-- Where the scanner stands. -/
inductive Ph where
  | val | item0 | name0 | name | colon | memb | item | all
  | text | esc | dig (k : Nat)
  | minus | zero | whole | point | frac | e | sign | exp
  | word (l : List Int) (k : Nat)
def isBlank (c : Int) : Prop := c = 32 ∨ c = 9 ∨ c = 10 ∨ c = 13
instance (c : Int) : Decidable (isBlank c) := by unfold isBlank; exact inferInstance
def isDig (c : Int) : Prop := 48 ≤ c ∧ c ≤ 57
instance (c : Int) : Decidable (isDig c) := by unfold isDig; exact inferInstance
def isHex (c : Int) : Prop := isDig c ∨ (97 ≤ c ∧ c ≤ 102) ∨ (65 ≤ c ∧ c ≤ 70)
instance (c : Int) : Decidable (isHex c) := by unfold isHex; exact inferInstance
def isEsc (c : Int) : Prop := c = 98 ∨ c = 102 ∨ c = 110 ∨ c = 114 ∨ c = 116 ∨ c = 92 ∨ c = 47 ∨ c = 34
instance (c : Int) : Decidable (isEsc c) := by unfold isEsc; exact inferInstance
def lTrue : List Int := [116, 114, 117, 101]
def lFalse : List Int := [102, 97, 108, 115, 101]
def lNull : List Int := [110, 117, 108, 108]
def litBytes (l : List Int) : ByteArray := ⟨(l.map fun c => UInt8.ofNat c.toNat).toArray⟩
/-- Behind a value. -/
def closed : List Br → Ph × List Br
  | [] => (.all, [])
  | .key :: r => (.colon, .obj :: r)
  | .obj :: r => (.memb, .obj :: r)
  | .arr :: r => (.item, .arr :: r)
abbrev Step := Except (ByteArray × Bool) (Ph × List Br)
def begin_ (q : ByteArray → ByteArray) (c : Int) (st : List Br) : Step :=
  if c = 123 then .ok (.name0, .obj :: st) else if c = 91 then .ok (.item0, .arr :: st) else if c = 34 then .ok (.text, st) else if c = 45 then .ok (.minus, st)
  else if c = 48 then .ok (.zero, st) else if isDig c then .ok (.whole, st) else if c = 116 then .ok (.word lTrue 1, st) else if c = 102 then .ok (.word lFalse 1, st)
  else if c = 110 then .ok (.word lNull 1, st) else .error (badWords q c wValue, true)
def nameOf (q : ByteArray → ByteArray) (c : Int) (st : List Br) : Step := if c = 34 then .ok (.text, .key :: st.tail) else .error (badWords q c wKey, false)
def between (q : ByteArray → ByteArray) (c : Int) (ph : Ph) (st : List Br) : Step :=
  if isBlank c then .ok (ph, st) else match ph with
  | .val => begin_ q c st
  | .item0 => if c = 93 then .ok (closed st.tail) else begin_ q c st
  | .name0 => if c = 125 then .ok (closed st.tail) else nameOf q c st
  | .name => nameOf q c st
  | .colon => if c = 58 then .ok (.val, st) else .error (badWords q c wAfterKey, false)
  | .memb => if c = 44 then .ok (.name, st) else if c = 125 then .ok (closed st.tail) else .error (badWords q c wAfterPair, false)
  | .item => if c = 44 then .ok (.val, st) else if c = 93 then .ok (closed st.tail) else .error (badWords q c wAfterElement, false)
  | _ => .error (badWords q c wAfterTop, false)
def litWhat (q : ByteArray → ByteArray) (l : List Int) (k : Nat) : ByteArray := wLit ++ litBytes l ++ wExp ++ quoted q (l.getD k 0) ++ wClose
/-- Behind a number that may end. -/
def numMore (q : ByteArray → ByteArray) (c : Int) (ph : Ph) (st : List Br) (dig pt ex : Bool) : Step :=
  if dig = true ∧ isDig c then .ok (ph, st) else if pt = true ∧ c = 46 then .ok (.point, st) else if ex = true ∧ (c = 101 ∨ c = 69) then .ok (.e, st)
  else between q c (closed st).1 (closed st).2
def step (q : ByteArray → ByteArray) (c : Int) (ph : Ph) (st : List Br) : Step :=
  match ph with
  | .text => if c = 34 then .ok (closed st) else if c = 92 then .ok (.esc, st) else if c < 32 then .error (badWords q c wString, false) else .ok (.text, st)
  | .esc => if isEsc c then .ok (.text, st) else if c = 117 then .ok (.dig 0, st) else .error (badWords q c wEscape, false)
  | .dig k => if isHex c then .ok (if k + 1 = 4 then .text else .dig (k + 1), st) else .error (badWords q c wHex, false)
  | .minus => if c = 48 then .ok (.zero, st) else if isDig c then .ok (.whole, st) else .error (badWords q c wNumber, false)
  | .point => if isDig c then .ok (.frac, st) else .error (badWords q c wFraction, false)
  | .e => if c = 43 ∨ c = 45 then .ok (.sign, st) else if isDig c then .ok (.exp, st) else .error (badWords q c wExponent, false)
  | .sign => if isDig c then .ok (.exp, st) else .error (badWords q c wExponent, false)
  | .zero => numMore q c .zero st false true true
  | .whole => numMore q c .whole st true true true
  | .frac => numMore q c .frac st true false true
  | .exp => numMore q c .exp st true false false
  | .word l k => if c = l.getD k 0 then .ok (if k + 1 = l.length then closed st else (.word l (k + 1), st)) else .error (badWords q c (litWhat q l k), false)
  | ph => between q c ph st
def numFinal : Ph → Bool
  | .zero | .whole | .frac | .exp => true
  | _ => false
def isAll : Ph → Bool
  | .all => true
  | _ => false
/-- What comes of a value: its end, or the first fault in it. -/
inductive Out where
  | done (e : Int)
  | fault (s : SE)
/-- May a number end here, at no depth? -/
def ender (ph : Ph) (st : List Br) : Bool := numFinal ph && st.isEmpty
def endF (q : ByteArray → ByteArray) (ph : Ph) (st : List Br) (i : Int) : SE :=
  match step q 32 ph st with
  | .error m => ⟨m.1, i, true, 0⟩
  | .ok _ => ⟨endWords, i, true, 0⟩
def outL (q : ByteArray → ByteArray) : List Int → Ph → List Br → Int → Out
  | [], ph, st, i => if ender ph st = true then .done i else .fault (endF q ph st i)
  | c :: r, ph, st, i =>
    match step q c ph st with
    | .error m => if ender ph st = true then .done i else .fault ⟨m.1, i + 1, false, if m.2 = true then i + 1 else 0⟩
    | .ok s => if isAll s.1 = true then (if ender ph st = true then .done i else .done (i + 1)) else outL q r s.1 s.2 (i + 1)
/-- The same from a place in a buffer. -/
def out (q : ByteArray → ByteArray) (L : List Int) (ph : Ph) (st : List Br) (i : Int) : Out := outL q ((L.take (L.length - 1)).drop i.toNat) ph st i
theorem out_end (q : ByteArray → ByteArray) (L : List Int) (ph : Ph) (st : List Br) (i : Int) (h : i = (L.length : Int) - 1) (hp : 0 < L.length) :
    out q L ph st i = if ender ph st = true then .done i else .fault (endF q ph st i) := by
  unfold out
  rw [List.drop_eq_nil_of_le (by rw [List.length_take]; omega)]
  rfl
theorem out_at (q : ByteArray → ByteArray) (L : List Int) (ph : Ph) (st : List Br) (i : Int) (h0 : 0 ≤ i) (h1 : i < (L.length : Int) - 1) :
    out q L ph st i = match step q (rd L i) ph st with
      | .error m => if ender ph st = true then .done i else .fault ⟨m.1, i + 1, false, if m.2 = true then i + 1 else 0⟩
      | .ok s => if isAll s.1 = true then (if ender ph st = true then .done i else .done (i + 1)) else out q L s.1 s.2 (i + 1) := by
  have hlt : i.toNat < (L.take (L.length - 1)).length := by rw [List.length_take]; omega
  obtain ⟨hh, er⟩ := rd_get L i h0 (by omega)
  have e1 : (L.take (L.length - 1)).drop i.toNat = rd L i :: (L.take (L.length - 1)).drop (i.toNat + 1) := by
    rw [List.drop_eq_getElem_cons hlt, er]
    congr 1
    exact List.getElem_take
  have e2 : (i + 1).toNat = i.toNat + 1 := by omega
  unfold out
  rw [e1, e2]
  rfl
end Go.Proofs.YtfkagnpdapkaaaaDoor.Err
