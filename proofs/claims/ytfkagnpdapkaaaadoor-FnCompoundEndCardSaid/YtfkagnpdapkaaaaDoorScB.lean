/- The makers of the package's syntax errors: what each tells, behind an error's address. -/
import Derived.Test.YtfkagnpdapkaaaaDoorTz
import Derived.Laws.Cover4
namespace Go.Proofs.YtfkagnpdapkaaaaDoor.Err
open Go.RowKit Go.Proofs.YtfkagnpdapkaaaaDoorW.PrintWords Go.Proofs.YtfkagnpdapkaaaaDoorW.PrintLast Go.Proofs.YtfkagnpdapkaaaaDoorW.PrintMore
open Go.Proofs.YtfkagnpdapkaaaaDoor.Tab
set_option linter.unusedVariables false
/-- A syntax error: its words, its offset, whether it tells the end, and the place of a byte that begins no value, plus one. -/
structure SE where
  msg : ByteArray
  off : Int
  atEnd : Bool
  va : Int
/-- A pointer's block is this syntax error. -/
def PT (w : World) (g : Nat) (s : SE) : Prop := w.heap[g]? = some (.cells #[.string s.msg, .int .i64 s.off, .bool s.atEnd, .int .i64 s.va] 89 (0, 0))
/-- A value is an error that is this syntax error. -/
def EV (w : World) (v : Value) (s : SE) : Prop := ∃ g, v = .iface 86 (.pointer (some ⟨g, 0, none⟩)) ∧ PT w g s
theorem blk_lt' {w : World} {g : Nat} {o : Obj} (h : w.heap[g]? = some o) : g < w.heap.size := (Array.getElem?_eq_some_iff.1 h).1
theorem PT.below {w w' : World} {g : Nat} {s : SE} (h : PT w g s) (hb : Below w.heap.size w w') : PT w' g s := by
  unfold PT at h ⊢
  rw [hb.block g (blk_lt' h)]; exact h
theorem EV.below {w w' : World} {v : Value} {s : SE} (h : EV w v s) (hb : Below w.heap.size w w') : EV w' v s := by
  obtain ⟨g, e, hp⟩ := h
  exact ⟨g, e, hp.below hb⟩
/-- What a maker of pointers answers. -/
def GivesP (w : World) (s : SE) (e : Ending) (w' : World) : Prop := ∃ g, e = .returned (.pointer (some ⟨g, 0, none⟩)) ∧ w.heap.size ≤ g ∧ PT w' g s ∧ Below w.heap.size w w'
/-- What a maker of errors answers. -/
def Gives (w : World) (s : SE) (e : Ending) (w' : World) : Prop := ∃ v, e = .returned v ∧ EV w' v s ∧ Below w.heap.size w w'
theorem errSyntax (msg : ByteArray) (off : Int) (w : World) : Calls Tryd.prog 128 #[.string msg, .int .i64 off] w (GivesP w ⟨msg, off, false, 0⟩) := by
  go_enter Tryd.func128, Tryd.ntmps128
  go_wp2
  go_ret
  exact ⟨_, rfl, Nat.le_refl _, blk_new w _, below_alloc (Below.refl _ _) _⟩
theorem errSyntaxAtEnd (msg : ByteArray) (off : Int) (w : World) : Calls Tryd.prog 149 #[.string msg, .int .i64 off] w (GivesP w ⟨msg, off, true, 0⟩) := by
  go_enter Tryd.func149, Tryd.ntmps149
  go_wp2
  go_ret
  exact ⟨_, rfl, Nat.le_refl _, blk_new w _, below_alloc (Below.refl _ _) _⟩
theorem errUnexpectedEnd (msg : ByteArray) (off : Int) (w : World) (hm : msg.size ≤ 100000) : Calls Tryd.prog 127 #[.string msg, .int .i64 off] w fun e w' => ∃ s, GivesP w s e w' := by
  go_enter Tryd.func127, Tryd.ntmps127
  go_wp2
  go_ret
  exact ⟨⟨_, _, _, _⟩, _, rfl, Nat.le_refl _, blk_new w _, below_alloc (Below.refl _ _) _⟩
/-- The words for the end of a text. -/
def endWords : ByteArray := ⟨#[117, 110, 101, 120, 112, 101, 99, 116, 101, 100, 32, 101, 110, 100, 32, 111, 102, 32, 74, 83, 79, 78, 32, 105, 110, 112, 117, 116]⟩
theorem endError (at_ : Int) (w : World) : Calls Tryd.prog 133 #[.int .i64 at_] w (Gives w ⟨endWords, at_, true, 0⟩) := by
  go_enter Tryd.func133, Tryd.ntmps133
  go_wp2_with fail
  refine (errSyntaxAtEnd _ _ _).mono ?_
  rintro e w' ⟨g, rfl, hg, hp, hb⟩
  go_wp2
  go_ret
  exact ⟨_, rfl, ⟨g, rfl, hp⟩, hb⟩
/-- What all walks stand on: the tables, and that strconv.Quote answers one function of its text, of two bytes or more. -/
structure G (q : ByteArray → ByteArray) (w : World) : Prop where
  tab : Glob w
  two : ∀ s, 2 ≤ (q s).size
  low : ∀ c, 0 ≤ c → c < 256 → (q (Utf8.encode c)).size ≤ 1000
  sp : q (Utf8.encode 32) = ⟨#[34, 32, 34]⟩
  quote : ∀ s w', s.size ≤ 100 → Below w.heap.size w w' → Calls Tryd.prog 54 #[.string s] w' fun e w'' => e = .returned (.string (q s)) ∧ Below w'.heap.size w' w''
theorem G.below {q : ByteArray → ByteArray} {w w' : World} (h : G q w) (hb : Below w.heap.size w w') : G q w' :=
  ⟨h.tab.below hb, h.two, h.low, h.sp, fun s w2 hs h2 => h.quote s w2 hs (below_step hb h2)⟩

/-- A byte between quotes, as the faults tell it. -/
def quoted (q : ByteArray → ByteArray) (c : Int) : ByteArray :=
  if c = 39 then ⟨#[39, 92, 39, 39]⟩ else if c = 34 then ⟨#[39, 34, 39]⟩ else ⟨#[39]⟩ ++ (q (Utf8.encode c)).extract 1 ((q (Utf8.encode c)).size - 1) ++ ⟨#[39]⟩
set_option maxRecDepth 100000 in
set_option maxHeartbeats 4000000 in
theorem quoteChar (q : ByteArray → ByteArray) (c : Int) (w : World) (hG : G q w) (h0 : 0 ≤ c) (h1 : c < 256) : Calls Tryd.prog 129 #[.int .u8 c] w fun e w' => e = .returned (.string (quoted q c)) ∧ Below w.heap.size w w' := by
  have hq := hG.quote
  have h2 := hG.two (Utf8.encode c)
  have h3 := hG.low c h0 h1
  clear hG
  by_cases c1 : c = 39
  · subst c1
    go_enter Tryd.func129, Tryd.ntmps129
    go_wp2
    go_ret
    exact ⟨rfl, Below.refl _ _⟩
  by_cases c2 : c = 34
  · subst c2
    go_enter Tryd.func129, Tryd.ntmps129
    go_wp2
    go_ret
    exact ⟨rfl, Below.refl _ _⟩
  have f1 : (c == 39) = false := beq_eq_false_iff_ne.mpr c1
  have f2 : (c == 34) = false := beq_eq_false_iff_ne.mpr c2
  go_enter Tryd.func129, Tryd.ntmps129
  go_wp2_with fail
  refine (hq _ w (by have := encode_size_le c; omega) (Below.refl _ _)).mono ?_
  rintro e w' ⟨rfl, hb⟩
  have HB := Aside0.mk hb
  clear hb hq
  go_wp2
  rw [Go.run_slice_string _ 9 _ _ _ _ _ Tryd.underlying9 (by omega) (by omega) (by omega)]
  go_wp2
  go_ret
  refine ⟨?_, HB.out⟩
  unfold quoted
  rw [if_neg c1, if_neg c2]
  rfl
theorem G.drewN {q : ByteArray → ByteArray} {w : World} (h : G q w) (n : Nat) : G q (w.drewN n) := h.below (pw_below_drewN (Below.refl _ _) n)
/-- What lies below stays so when what came after is drawn ahead. -/
theorem belowD {w w' : World} {n : Nat} (h : Below (w.drewN n).heap.size (w.drewN n) w') : Below w.heap.size w w' := below_step (pw_below_drewN (Below.refl _ _) n) h
theorem quoted_size (q : ByteArray → ByteArray) (c : Int) (w : World) (hG : G q w) (h0 : 0 ≤ c) (h1 : c < 256) : (quoted q c).size ≤ 2000 := by
  have h2 := hG.low c h0 h1
  unfold quoted
  split
  · decide
  split
  · decide
  · simp only [ByteArray.size_append, ByteArray.size_extract]
    have : (⟨#[39]⟩ : ByteArray).size = 1 := rfl
    omega
/-- The bytes behind a buffer's address: a text and a nought behind it. -/
structure Buf (w : World) (ad : Addr) (c : Nat) (L : List Int) : Prop where
  C : Kd.C (Kd.int .u8) w (some ad) L.length L
  cap : L.length ≤ c
  bytes : ∀ x, x ∈ L → 0 ≤ x ∧ x < 256
  pos : 0 < L.length
  small : L.length ≤ 10001
  last : rd L (L.length - 1) = 0
section
variable {w w' : World} {ad : Addr} {c : Nat} {L : List Int}
theorem Buf.below (h : Buf w ad c L) (hb : Below w.heap.size w w') : Buf w' ad c L := ⟨Kd.C_below h.C hb, h.cap, h.bytes, h.pos, h.small, h.last⟩
theorem Buf.drewN (h : Buf w ad c L) (n : Nat) : Buf (w.drewN n) ad c L := h.below (pw_below_drewN (Below.refl _ _) n)
theorem Buf.at_ (h : Buf w ad c L) (i : Int) (h0 : 0 ≤ i) (h1 : i < L.length) : w.cell? (ad.add i.toNat) = some (.int .u8 (rd L i)) := by
  obtain ⟨ad', e, hx⟩ := Kd.at_int h.C i h0 h1
  cases e
  exact hx
theorem rd_get (L : List Int) (i : Int) (h0 : 0 ≤ i) (h1 : i < L.length) : ∃ h : i.toNat < L.length, rd L i = L[i.toNat] := by
  have h : i.toNat < L.length := by omega
  refine ⟨h, ?_⟩
  unfold rd
  simp [h]
theorem Buf.byte (h : Buf w ad c L) (i : Int) (h0 : 0 ≤ i) (h1 : i < L.length) : 0 ≤ rd L i ∧ rd L i < 256 := by
  obtain ⟨hh, e⟩ := rd_get L i h0 h1
  rw [e]
  exact h.bytes _ (List.getElem_mem _)
/-- A byte that is no nought is not the last one. -/
theorem Buf.next (h : Buf w ad c L) (i : Int) (h0 : 0 ≤ i) (h1 : i < L.length) (hn : rd L i ≠ 0) : i + 1 < L.length := by
  have := h.last
  by_cases h2 : i + 1 < L.length
  · exact h2
  · exfalso
    have : i = L.length - 1 := by omega
    rw [this] at hn
    exact hn h.last
end
end Go.Proofs.YtfkagnpdapkaaaaDoor.Err
/- The package's syntax errors at a place of a text. -/
namespace Go.Proofs.YtfkagnpdapkaaaaDoor.Err
open Go.RowKit Go.Proofs.YtfkagnpdapkaaaaDoorW.PrintWords Go.Proofs.YtfkagnpdapkaaaaDoorW.PrintLast Go.Proofs.YtfkagnpdapkaaaaDoorW.PrintMore
open Go.Proofs.YtfkagnpdapkaaaaDoor.Tab
set_option linter.unusedVariables false
abbrev wValue : ByteArray := ⟨#[108, 111, 111, 107, 105, 110, 103, 32, 102, 111, 114, 32, 98, 101, 103, 105, 110, 110, 105, 110, 103, 32, 111, 102, 32, 118, 97, 108, 117, 101]⟩
abbrev wKey : ByteArray := ⟨#[108, 111, 111, 107, 105, 110, 103, 32, 102, 111, 114, 32, 98, 101, 103, 105, 110, 110, 105, 110, 103, 32, 111, 102, 32, 111, 98, 106, 101, 99, 116, 32, 107, 101, 121, 32, 115, 116, 114, 105, 110, 103]⟩
abbrev wAfterKey : ByteArray := ⟨#[97, 102, 116, 101, 114, 32, 111, 98, 106, 101, 99, 116, 32, 107, 101, 121]⟩
abbrev wAfterPair : ByteArray := ⟨#[97, 102, 116, 101, 114, 32, 111, 98, 106, 101, 99, 116, 32, 107, 101, 121, 58, 118, 97, 108, 117, 101, 32, 112, 97, 105, 114]⟩
abbrev wAfterElement : ByteArray := ⟨#[97, 102, 116, 101, 114, 32, 97, 114, 114, 97, 121, 32, 101, 108, 101, 109, 101, 110, 116]⟩
abbrev wAfterTop : ByteArray := ⟨#[97, 102, 116, 101, 114, 32, 116, 111, 112, 45, 108, 101, 118, 101, 108, 32, 118, 97, 108, 117, 101]⟩
abbrev wString : ByteArray := ⟨#[105, 110, 32, 115, 116, 114, 105, 110, 103, 32, 108, 105, 116, 101, 114, 97, 108]⟩
abbrev wNumber : ByteArray := ⟨#[105, 110, 32, 110, 117, 109, 101, 114, 105, 99, 32, 108, 105, 116, 101, 114, 97, 108]⟩
abbrev wFraction : ByteArray := ⟨#[97, 102, 116, 101, 114, 32, 100, 101, 99, 105, 109, 97, 108, 32, 112, 111, 105, 110, 116, 32, 105, 110, 32, 110, 117, 109, 101, 114, 105, 99, 32, 108, 105, 116, 101, 114, 97, 108]⟩
abbrev wExponent : ByteArray := ⟨#[105, 110, 32, 101, 120, 112, 111, 110, 101, 110, 116, 32, 111, 102, 32, 110, 117, 109, 101, 114, 105, 99, 32, 108, 105, 116, 101, 114, 97, 108]⟩
abbrev wEscape : ByteArray := ⟨#[105, 110, 32, 115, 116, 114, 105, 110, 103, 32, 101, 115, 99, 97, 112, 101, 32, 99, 111, 100, 101]⟩
abbrev wHex : ByteArray := ⟨#[105, 110, 32, 92, 117, 32, 104, 101, 120, 97, 100, 101, 99, 105, 109, 97, 108, 32, 99, 104, 97, 114, 97, 99, 116, 101, 114, 32, 101, 115, 99, 97, 112, 101]⟩
abbrev wInvalid : ByteArray := ⟨#[105, 110, 118, 97, 108, 105, 100, 32, 99, 104, 97, 114, 97, 99, 116, 101, 114, 32]⟩
abbrev wBlank : ByteArray := ⟨#[32]⟩
abbrev wBlankEnd : ByteArray := ⟨#[105, 110, 118, 97, 108, 105, 100, 32, 99, 104, 97, 114, 97, 99, 116, 101, 114, 32, 39, 32, 39, 32]⟩
abbrev wLit : ByteArray := ⟨#[105, 110, 32, 108, 105, 116, 101, 114, 97, 108, 32]⟩
abbrev wExp : ByteArray := ⟨#[32, 40, 101, 120, 112, 101, 99, 116, 105, 110, 103, 32]⟩
abbrev wClose : ByteArray := ⟨#[41]⟩
/-- The words that tell where a byte cannot stand. -/
def whereWords (k : Int) : ByteArray :=
  if k = 1 then wKey else if k = 2 then wAfterKey else if k = 3 then wAfterPair else if k = 4 then wAfterElement else if k = 5 then wAfterTop else if k = 6 then wString else if k = 7 then wNumber else if k = 8 then wFraction else if k = 9 then wExponent else wValue
theorem whereWords_size (k : Int) : (whereWords k).size ≤ 100 := by
  unfold whereWords
  repeat' split
  all_goals decide
theorem text (k : Int) (w : World) : Calls Tryd.prog 135 #[.int .u8 k] w fun e w' => e = .returned (.string (whereWords k)) ∧ Drawn0 w w' := by
  by_cases c1 : k = 1
  · subst c1
    go_enter Tryd.func135, Tryd.ntmps135
    go_wp2
    go_ret
    exact ⟨rfl, by repeat (first | exact Drawn0.refl _ | apply Drawn0.step)⟩
  have d1 : (k == 1) = false := beq_eq_false_iff_ne.mpr c1
  by_cases c2 : k = 2
  · subst c2
    go_enter Tryd.func135, Tryd.ntmps135
    go_wp2
    go_ret
    exact ⟨rfl, by repeat (first | exact Drawn0.refl _ | apply Drawn0.step)⟩
  have d2 : (k == 2) = false := beq_eq_false_iff_ne.mpr c2
  by_cases c3 : k = 3
  · subst c3
    go_enter Tryd.func135, Tryd.ntmps135
    go_wp2
    go_ret
    exact ⟨rfl, by repeat (first | exact Drawn0.refl _ | apply Drawn0.step)⟩
  have d3 : (k == 3) = false := beq_eq_false_iff_ne.mpr c3
  by_cases c4 : k = 4
  · subst c4
    go_enter Tryd.func135, Tryd.ntmps135
    go_wp2
    go_ret
    exact ⟨rfl, by repeat (first | exact Drawn0.refl _ | apply Drawn0.step)⟩
  have d4 : (k == 4) = false := beq_eq_false_iff_ne.mpr c4
  by_cases c5 : k = 5
  · subst c5
    go_enter Tryd.func135, Tryd.ntmps135
    go_wp2
    go_ret
    exact ⟨rfl, by repeat (first | exact Drawn0.refl _ | apply Drawn0.step)⟩
  have d5 : (k == 5) = false := beq_eq_false_iff_ne.mpr c5
  by_cases c6 : k = 6
  · subst c6
    go_enter Tryd.func135, Tryd.ntmps135
    go_wp2
    go_ret
    exact ⟨rfl, by repeat (first | exact Drawn0.refl _ | apply Drawn0.step)⟩
  have d6 : (k == 6) = false := beq_eq_false_iff_ne.mpr c6
  by_cases c7 : k = 7
  · subst c7
    go_enter Tryd.func135, Tryd.ntmps135
    go_wp2
    go_ret
    exact ⟨rfl, by repeat (first | exact Drawn0.refl _ | apply Drawn0.step)⟩
  have d7 : (k == 7) = false := beq_eq_false_iff_ne.mpr c7
  by_cases c8 : k = 8
  · subst c8
    go_enter Tryd.func135, Tryd.ntmps135
    go_wp2
    go_ret
    exact ⟨rfl, by repeat (first | exact Drawn0.refl _ | apply Drawn0.step)⟩
  have d8 : (k == 8) = false := beq_eq_false_iff_ne.mpr c8
  by_cases c9 : k = 9
  · subst c9
    go_enter Tryd.func135, Tryd.ntmps135
    go_wp2
    go_ret
    exact ⟨rfl, by repeat (first | exact Drawn0.refl _ | apply Drawn0.step)⟩
  have d9 : (k == 9) = false := beq_eq_false_iff_ne.mpr c9
  go_enter Tryd.func135, Tryd.ntmps135
  go_wp2
  go_ret
  refine ⟨?_, by repeat (first | exact Drawn0.refl _ | apply Drawn0.step)⟩
  unfold whereWords
  rw [if_neg c1, if_neg c2, if_neg c3, if_neg c4, if_neg c5, if_neg c6, if_neg c7, if_neg c8, if_neg c9]
  rfl
/-- The words of a byte that cannot stand somewhere. -/
def badWords (q : ByteArray → ByteArray) (c : Int) (what : ByteArray) : ByteArray := wInvalid ++ quoted q c ++ wBlank ++ what
set_option maxRecDepth 100000 in
set_option maxHeartbeats 4000000 in
theorem invalidCharacter (q : ByteArray → ByteArray) (ad : Addr) (c : Nat) (L : List Int) (cur : Int) (what : ByteArray) (w : World) (hG : G q w) (hB : Buf w ad c L) (h0 : 0 ≤ cur) (h1 : cur < L.length) (hw : what.size ≤ 10000) :
    Calls Tryd.prog 134 #[.slice (some ad) L.length c, .int .i64 cur, .string what] w (GivesP w ⟨badWords q (rd L cur) what, cur + 1, false, 0⟩) := by
  have hx := hB.at_ cur h0 h1
  have hby := hB.byte cur h0 h1
  have hs := quoted_size q (rd L cur) w hG hby.1 hby.2
  have hcall := quoteChar q (rd L cur) w hG hby.1 hby.2
  have hsm := hB.small
  have HB := Aside0.mk hB
  have HC := Aside0.mk hcall
  clear hB hcall hby
  go_enter Tryd.func134, Tryd.ntmps134
  go_wp2_with fail
  refine HC.out.mono ?_
  rintro e w1 ⟨rfl, hb1⟩
  have HB1 := Aside0.mk hb1
  clear hb1 hx HC
  go_wp2_with fail
  refine (errSyntax _ _ _).mono ?_
  rintro e w2 ⟨g, rfl, hg, hp, hb2⟩
  have HP := Aside0.mk hp
  have HB2 := Aside0.mk hb2
  clear hp hb2
  go_wp2
  go_ret
  exact ⟨g, rfl, Nat.le_trans HB1.out.size hg, HP.out, below_step HB1.out HB2.out⟩
theorem withValueStartAt (g : Nat) (s : SE) (cur : Int) (w0 w : World) (h0 : 0 ≤ cur) (h1 : cur < 20000) (hb : Below w0.heap.size w0 w) (hg : w0.heap.size ≤ g) (hp : PT w g s) :
    Calls Tryd.prog 136 #[.pointer (some ⟨g, 0, none⟩), .int .i64 cur] w (GivesP w0 { s with va := cur + 1 }) := by
  have hc : w.cell? ⟨g, 3, none⟩ = some (.int .i64 s.va) := by unfold PT at hp; simp [World.cell?, hp]
  have hf : w.frozen? ⟨g, 3, none⟩ = false := by unfold PT at hp; simp [World.frozen?, hp]
  have HP := Aside0.mk hp
  have HB := Aside0.mk hb
  have HG := Aside0.mk hg
  clear hp hb hg
  go_enter Tryd.func136, Tryd.ntmps136
  go_wp2
  go_ret
  refine ⟨g, rfl, HG.out, ?_, below_set HB.out HG.out⟩
  have hp := HP.out
  unfold PT at hp ⊢
  simp [World.setCell, Array.getElem?_modify, hp]
theorem isEnd (ad : Addr) (c : Nat) (L : List Int) (cur : Int) (w : World) (hB : Buf w ad c L) (h0 : 0 ≤ cur) (h1 : cur < L.length) :
    Calls Tryd.prog 132 #[.slice (some ad) L.length c, .int .i64 cur] w fun e w' => e = .returned (.bool (decide (cur = (L.length : Int) - 1))) ∧ Drawn0 w w' := by
  have hx := hB.at_ cur h0 h1
  have hl := hB.last
  have hsm := hB.small
  have hps := hB.pos
  clear hB
  by_cases hc : cur = (L.length : Int) - 1
  · have e : decide (cur = (L.length : Int) - 1) = true := decide_eq_true hc
    rw [e]
    have f : (cur == (L.length : Int) - 1) = true := beq_iff_eq.mpr hc
    rw [← hc] at hl
    rw [hl] at hx
    clear hc e hl
    go_enter Tryd.func132, Tryd.ntmps132
    go_wp2
    go_ret
    exact ⟨rfl, by repeat (first | exact Drawn0.refl _ | apply Drawn0.step)⟩
  · have e : decide (cur = (L.length : Int) - 1) = false := decide_eq_false hc
    rw [e]
    have f : (cur == (L.length : Int) - 1) = false := beq_eq_false_iff_ne.mpr hc
    go_enter Tryd.func132, Tryd.ntmps132
    go_wp2
    go_ret
    exact ⟨rfl, by repeat (first | exact Drawn0.refl _ | apply Drawn0.step)⟩
/-- The fault of a byte, or of the end, at a place. -/
def faultAt (q : ByteArray → ByteArray) (L : List Int) (cur k : Int) : SE :=
  if cur = (L.length : Int) - 1 then ⟨endWords, cur, true, 0⟩ else ⟨badWords q (rd L cur) (whereWords k), cur + 1, false, if k = 0 then cur + 1 else 0⟩
set_option maxRecDepth 100000 in
set_option maxHeartbeats 4000000 in
theorem syntaxErrorAt (q : ByteArray → ByteArray) (ad : Addr) (c : Nat) (L : List Int) (cur k : Int) (w : World) (hG : G q w) (hB : Buf w ad c L) (h0 : 0 ≤ cur) (h1 : cur < L.length) :
    Calls Tryd.prog 90 #[.slice (some ad) L.length c, .int .i64 cur, .int .u8 k] w (Gives w (faultAt q L cur k)) := by
  have hsm := hB.small
  have hcall := isEnd ad c L cur w hB h0 h1
  have HB := Aside0.mk hB
  have HG := Aside0.mk hG
  clear hB hG
  by_cases hc : cur = (L.length : Int) - 1
  · have HF := Aside0.mk (show faultAt q L cur k = ⟨endWords, cur, true, 0⟩ by unfold faultAt; rw [if_pos hc])
    rw [decide_eq_true hc] at hcall
    have HC := Aside0.mk hcall
    clear hcall hc
    go_enter Tryd.func90, Tryd.ntmps90
    go_wp2_with fail
    with_reducible refine HC.out.mono ?_
    rintro e w1 ⟨rfl, ⟨n, rfl⟩⟩
    go_wp2_with fail
    with_reducible refine (endError cur _).mono ?_
    rintro e w2 ⟨v, rfl, hv, hb⟩
    have HV := Aside0.mk hv
    have HB := Aside0.mk hb
    clear hv hb
    go_wp2
    go_ret
    rw [HF.out]
    exact ⟨_, rfl, HV.out, belowD HB.out⟩
  · have HF := Aside0.mk (show faultAt q L cur k = ⟨badWords q (rd L cur) (whereWords k), cur + 1, false, if k = 0 then cur + 1 else 0⟩ by unfold faultAt; rw [if_neg hc])
    rw [decide_eq_false hc] at hcall
    have HC := Aside0.mk hcall
    clear hcall hc
    go_enter Tryd.func90, Tryd.ntmps90
    go_wp2_with fail
    with_reducible refine HC.out.mono ?_
    rintro e w1 ⟨rfl, ⟨n, rfl⟩⟩
    go_wp2_with fail
    with_reducible refine (text k _).mono ?_
    rintro e w2 ⟨rfl, ⟨m, rfl⟩⟩
    go_wp2_with fail
    with_reducible refine (invalidCharacter q ad c L cur (whereWords k) _ (HG.out.drewN _) (HB.out.drewN _) h0 h1 (Nat.le_trans (whereWords_size k) (by decide))).mono ?_
    rintro e w3 ⟨g, rfl, hg, hp, hb⟩
    have HP := Aside0.mk hp
    have HB3 := Aside0.mk (belowD hb)
    have HG3 := Aside0.mk (show w.heap.size ≤ g from hg)
    clear hp hb hg
    by_cases hk : k = 0
    · have f : (k == 0) = true := beq_iff_eq.mpr hk
      have HF2 := Aside0.mk (HF.out.trans (by rw [if_pos hk]))
      clear hk HF
      go_wp2_with fail
      with_reducible refine (withValueStartAt g ⟨badWords q (rd L cur) (whereWords k), cur + 1, false, 0⟩ cur w w3 h0 (by omega) HB3.out HG3.out HP.out).mono ?_
      rintro e w4 ⟨g, rfl, hg, hp, hb⟩
      have HP := Aside0.mk hp
      have HB4 := Aside0.mk hb
      clear hp hb hg
      go_wp2
      go_ret
      rw [HF2.out]
      exact ⟨_, rfl, ⟨g, rfl, HP.out⟩, HB4.out⟩
    · have f : (k == 0) = false := beq_eq_false_iff_ne.mpr hk
      have HF2 := Aside0.mk (HF.out.trans (by rw [if_neg hk]))
      clear hk HF
      go_wp2
      go_ret
      rw [HF2.out]
      exact ⟨_, rfl, ⟨g, rfl, HP.out⟩, HB3.out⟩
end Go.Proofs.YtfkagnpdapkaaaaDoor.Err
/- The scanner of texts, as plain Lean: a step for each byte, and what comes of all that are left. -/
namespace Go.Proofs.YtfkagnpdapkaaaaDoor.Err
open Go.RowKit Go.Proofs.YtfkagnpdapkaaaaDoorW.PrintWords Go.Proofs.YtfkagnpdapkaaaaDoorW.PrintLast Go.Proofs.YtfkagnpdapkaaaaDoorW.PrintMore
set_option linter.unusedVariables false
/-- A bracket that is open; 'key': an object whose name is read. -/
inductive Br where
  | obj | arr | key
/-- Where the scanner stands. -/
inductive Ph where
  | val | item0 | name0 | name | colon | memb | item | all
  | text | esc | dig (k : Nat)
  | minus | zero | whole | point | frac | e | sign | exp
  | word (l : List Int) (k : Nat)
def isBlank (c : Int) : Prop := c = 32 ∨ c = 9 ∨ c = 10 ∨ c = 13
instance (c : Int) : Decidable (isBlank c) := by unfold isBlank; exact inferInstance
def isDig (c : Int) : Prop := 48 ≤ c ∧ c ≤ 57
instance (c : Int) : Decidable (isDig c) := by unfold isDig; exact inferInstance
def isHex (c : Int) : Prop := isDig c ∨ (97 ≤ c ∧ c ≤ 102) ∨ (65 ≤ c ∧ c ≤ 70)
instance (c : Int) : Decidable (isHex c) := by unfold isHex; exact inferInstance
def isEsc (c : Int) : Prop := c = 98 ∨ c = 102 ∨ c = 110 ∨ c = 114 ∨ c = 116 ∨ c = 92 ∨ c = 47 ∨ c = 34
instance (c : Int) : Decidable (isEsc c) := by unfold isEsc; exact inferInstance
def lTrue : List Int := [116, 114, 117, 101]
def lFalse : List Int := [102, 97, 108, 115, 101]
def lNull : List Int := [110, 117, 108, 108]
def litBytes (l : List Int) : ByteArray := ⟨(l.map fun c => UInt8.ofNat c.toNat).toArray⟩
/-- Behind a value. -/
def closed : List Br → Ph × List Br
  | [] => (.all, [])
  | .key :: r => (.colon, .obj :: r)
  | .obj :: r => (.memb, .obj :: r)
  | .arr :: r => (.item, .arr :: r)
abbrev Step := Except (ByteArray × Bool) (Ph × List Br)
def begin_ (q : ByteArray → ByteArray) (c : Int) (st : List Br) : Step :=
  if c = 123 then .ok (.name0, .obj :: st) else if c = 91 then .ok (.item0, .arr :: st) else if c = 34 then .ok (.text, st) else if c = 45 then .ok (.minus, st)
  else if c = 48 then .ok (.zero, st) else if isDig c then .ok (.whole, st) else if c = 116 then .ok (.word lTrue 1, st) else if c = 102 then .ok (.word lFalse 1, st)
  else if c = 110 then .ok (.word lNull 1, st) else .error (badWords q c wValue, true)
def nameOf (q : ByteArray → ByteArray) (c : Int) (st : List Br) : Step := if c = 34 then .ok (.text, .key :: st.tail) else .error (badWords q c wKey, false)
def between (q : ByteArray → ByteArray) (c : Int) (ph : Ph) (st : List Br) : Step :=
  if isBlank c then .ok (ph, st) else match ph with
  | .val => begin_ q c st
  | .item0 => if c = 93 then .ok (closed st.tail) else begin_ q c st
  | .name0 => if c = 125 then .ok (closed st.tail) else nameOf q c st
  | .name => nameOf q c st
  | .colon => if c = 58 then .ok (.val, st) else .error (badWords q c wAfterKey, false)
  | .memb => if c = 44 then .ok (.name, st) else if c = 125 then .ok (closed st.tail) else .error (badWords q c wAfterPair, false)
  | .item => if c = 44 then .ok (.val, st) else if c = 93 then .ok (closed st.tail) else .error (badWords q c wAfterElement, false)
  | _ => .error (badWords q c wAfterTop, false)
def litWhat (q : ByteArray → ByteArray) (l : List Int) (k : Nat) : ByteArray := wLit ++ litBytes l ++ wExp ++ quoted q (l.getD k 0) ++ wClose
/-- Behind a number that may end. -/
def numMore (q : ByteArray → ByteArray) (c : Int) (ph : Ph) (st : List Br) (dig pt ex : Bool) : Step :=
  if dig = true ∧ isDig c then .ok (ph, st) else if pt = true ∧ c = 46 then .ok (.point, st) else if ex = true ∧ (c = 101 ∨ c = 69) then .ok (.e, st)
  else between q c (closed st).1 (closed st).2
def step (q : ByteArray → ByteArray) (c : Int) (ph : Ph) (st : List Br) : Step :=
  match ph with
  | .text => if c = 34 then .ok (closed st) else if c = 92 then .ok (.esc, st) else if c < 32 then .error (badWords q c wString, false) else .ok (.text, st)
  | .esc => if isEsc c then .ok (.text, st) else if c = 117 then .ok (.dig 0, st) else .error (badWords q c wEscape, false)
  | .dig k => if isHex c then .ok (if k + 1 = 4 then .text else .dig (k + 1), st) else .error (badWords q c wHex, false)
  | .minus => if c = 48 then .ok (.zero, st) else if isDig c then .ok (.whole, st) else .error (badWords q c wNumber, false)
  | .point => if isDig c then .ok (.frac, st) else .error (badWords q c wFraction, false)
  | .e => if c = 43 ∨ c = 45 then .ok (.sign, st) else if isDig c then .ok (.exp, st) else .error (badWords q c wExponent, false)
  | .sign => if isDig c then .ok (.exp, st) else .error (badWords q c wExponent, false)
  | .zero => numMore q c .zero st false true true
  | .whole => numMore q c .whole st true true true
  | .frac => numMore q c .frac st true false true
  | .exp => numMore q c .exp st true false false
  | .word l k => if c = l.getD k 0 then .ok (if k + 1 = l.length then closed st else (.word l (k + 1), st)) else .error (badWords q c (litWhat q l k), false)
  | ph => between q c ph st
def numFinal : Ph → Bool
  | .zero | .whole | .frac | .exp => true
  | _ => false
def isAll : Ph → Bool
  | .all => true
  | _ => false
/-- What comes of a value: its end, or the first fault in it. -/
inductive Out where
  | done (e : Int)
  | fault (s : SE)
/-- May a number end here, at no depth? -/
def ender (ph : Ph) (st : List Br) : Bool := numFinal ph && st.isEmpty
def endF (q : ByteArray → ByteArray) (ph : Ph) (st : List Br) (i : Int) : SE :=
  match step q 32 ph st with
  | .error m => ⟨m.1, i, true, 0⟩
  | .ok _ => ⟨endWords, i, true, 0⟩
def outL (q : ByteArray → ByteArray) : List Int → Ph → List Br → Int → Out
  | [], ph, st, i => if ender ph st = true then .done i else .fault (endF q ph st i)
  | c :: r, ph, st, i =>
    match step q c ph st with
    | .error m => if ender ph st = true then .done i else .fault ⟨m.1, i + 1, false, if m.2 = true then i + 1 else 0⟩
    | .ok s => if isAll s.1 = true then (if ender ph st = true then .done i else .done (i + 1)) else outL q r s.1 s.2 (i + 1)
/-- The same from a place in a buffer. -/
def out (q : ByteArray → ByteArray) (L : List Int) (ph : Ph) (st : List Br) (i : Int) : Out := outL q ((L.take (L.length - 1)).drop i.toNat) ph st i
theorem out_end (q : ByteArray → ByteArray) (L : List Int) (ph : Ph) (st : List Br) (i : Int) (h : i = (L.length : Int) - 1) (hp : 0 < L.length) :
    out q L ph st i = if ender ph st = true then .done i else .fault (endF q ph st i) := by
  unfold out
  rw [List.drop_eq_nil_of_le (by rw [List.length_take]; omega)]
  rfl
theorem out_at (q : ByteArray → ByteArray) (L : List Int) (ph : Ph) (st : List Br) (i : Int) (h0 : 0 ≤ i) (h1 : i < (L.length : Int) - 1) :
    out q L ph st i = match step q (rd L i) ph st with
      | .error m => if ender ph st = true then .done i else .fault ⟨m.1, i + 1, false, if m.2 = true then i + 1 else 0⟩
      | .ok s => if isAll s.1 = true then (if ender ph st = true then .done i else .done (i + 1)) else out q L s.1 s.2 (i + 1) := by
  have hlt : i.toNat < (L.take (L.length - 1)).length := by rw [List.length_take]; omega
  obtain ⟨hh, er⟩ := rd_get L i h0 (by omega)
  have e1 : (L.take (L.length - 1)).drop i.toNat = rd L i :: (L.take (L.length - 1)).drop (i.toNat + 1) := by
    rw [List.drop_eq_getElem_cons hlt, er]
    congr 1
    exact List.getElem_take
  have e2 : (i + 1).toNat = i.toNat + 1 := by omega
  unfold out
  rw [e1, e2]
  rfl
end Go.Proofs.YtfkagnpdapkaaaaDoor.Err
/- The syntax errors of numbers, words and texts. -/
namespace Go.Proofs.YtfkagnpdapkaaaaDoor.Err
open Go.RowKit Go.Proofs.YtfkagnpdapkaaaaDoorW.PrintWords Go.Proofs.YtfkagnpdapkaaaaDoorW.PrintLast Go.Proofs.YtfkagnpdapkaaaaDoorW.PrintMore
set_option linter.unusedVariables false
theorem blankWords {q : ByteArray → ByteArray} {w : World} (hG : G q w) (what : ByteArray) : wBlankEnd ++ what = badWords q 32 what := by
  have e : quoted q 32 = ⟨#[39, 32, 39]⟩ := by
    unfold quoted
    rw [if_neg (by decide), if_neg (by decide), hG.sp]
    rfl
  unfold badWords
  rw [e]
  rfl
set_option maxRecDepth 100000 in
theorem scalarEnd {q : ByteArray → ByteArray} (b : Value) (cur start : Int) (what : ByteArray) (w : World) (hG : G q w) (hw : what.size ≤ 10000) :
    Calls Tryd.prog 147 #[b, .int .i64 cur, .int .i64 start, .string what] w (Gives w ⟨badWords q 32 what, cur, true, 0⟩) := by
  rw [← blankWords hG what]
  clear hG
  go_enter Tryd.func147, Tryd.ntmps147
  go_wp2_with fail
  with_reducible refine (errSyntaxAtEnd _ _ _).mono ?_
  rintro e w1 ⟨g, rfl, hg, hp, hb⟩
  have HP := Aside0.mk hp
  have HB := Aside0.mk hb
  clear hp hb hg
  go_wp2
  go_ret
  exact ⟨_, rfl, ⟨g, rfl, HP.out⟩, HB.out⟩
/-- The fault of a byte in a number, a word or an escape. -/
def scalarF (q : ByteArray → ByteArray) (L : List Int) (cur : Int) (what : ByteArray) : SE :=
  if cur = (L.length : Int) - 1 then ⟨badWords q 32 what, cur, true, 0⟩ else ⟨badWords q (rd L cur) what, cur + 1, false, 0⟩
set_option maxHeartbeats 4000000 in
theorem numberError (q : ByteArray → ByteArray) (ad : Addr) (c : Nat) (L : List Int) (cur start k : Int) (w : World) (hG : G q w) (hB : Buf w ad c L) (h0 : 0 ≤ cur) (h1 : cur < L.length) :
    Calls Tryd.prog 145 #[.slice (some ad) L.length c, .int .i64 cur, .int .i64 start, .int .u8 k] w (Gives w (scalarF q L cur (whereWords k))) := by
  have hcall := isEnd ad c L cur w hB h0 h1
  have HB := Aside0.mk hB
  have HG := Aside0.mk hG
  clear hB hG
  by_cases hc : cur = (L.length : Int) - 1
  · have HF := Aside0.mk (show scalarF q L cur (whereWords k) = ⟨badWords q 32 (whereWords k), cur, true, 0⟩ by unfold scalarF; rw [if_pos hc])
    rw [decide_eq_true hc] at hcall
    have HC := Aside0.mk hcall
    clear hcall hc
    go_enter Tryd.func145, Tryd.ntmps145
    go_wp2_with fail
    with_reducible refine HC.out.mono ?_
    rintro e w1 ⟨rfl, ⟨n, rfl⟩⟩
    go_wp2_with fail
    with_reducible refine (text k _).mono ?_
    rintro e w2 ⟨rfl, ⟨m, rfl⟩⟩
    go_wp2_with fail
    with_reducible refine (scalarEnd _ cur start (whereWords k) _ (HG.out.drewN _) (Nat.le_trans (whereWords_size k) (by decide))).mono ?_
    rintro e w2 ⟨v, rfl, hv, hb⟩
    have HV := Aside0.mk hv
    have HB := Aside0.mk hb
    clear hv hb
    go_wp2
    go_ret
    rw [HF.out]
    exact ⟨_, rfl, HV.out, belowD HB.out⟩
  · have HF := Aside0.mk (show scalarF q L cur (whereWords k) = ⟨badWords q (rd L cur) (whereWords k), cur + 1, false, 0⟩ by unfold scalarF; rw [if_neg hc])
    rw [decide_eq_false hc] at hcall
    have HC := Aside0.mk hcall
    clear hcall hc
    go_enter Tryd.func145, Tryd.ntmps145
    go_wp2_with fail
    with_reducible refine HC.out.mono ?_
    rintro e w1 ⟨rfl, ⟨n, rfl⟩⟩
    go_wp2_with fail
    with_reducible refine (text k _).mono ?_
    rintro e w2 ⟨rfl, ⟨m, rfl⟩⟩
    go_wp2_with fail
    with_reducible refine (invalidCharacter q ad c L cur (whereWords k) _ (HG.out.drewN _) (HB.out.drewN _) h0 h1 (Nat.le_trans (whereWords_size k) (by decide))).mono ?_
    rintro e w3 ⟨g, rfl, hg, hp, hb⟩
    have HP := Aside0.mk hp
    have HB3 := Aside0.mk hb
    clear hp hb hg
    go_wp2
    go_ret
    rw [HF.out]
    exact ⟨_, rfl, ⟨g, rfl, HP.out⟩, belowD HB3.out⟩
/-- An escape's fault: behind the backslash, or in the four digits. -/
def escWhat (bs cur : Int) : ByteArray := if cur > bs + 1 then wHex else wEscape
set_option maxHeartbeats 4000000 in
theorem escapeError (q : ByteArray → ByteArray) (ad : Addr) (c : Nat) (L : List Int) (cur bs : Int) (w : World) (hG : G q w) (hB : Buf w ad c L) (h0 : 0 ≤ cur) (h1 : cur < L.length) (hb0 : 0 ≤ bs) (hb1 : bs < L.length) :
    Calls Tryd.prog 157 #[.slice (some ad) L.length c, .int .i64 bs, .int .i64 cur] w (Gives w (scalarF q L cur (escWhat bs cur))) := by
  have hcall := isEnd ad c L cur w hB h0 h1
  have hsm := hB.small
  have HB := Aside0.mk hB
  have HG := Aside0.mk hG
  clear hB hG
  have key : ∀ (what : ByteArray), what = wHex ∧ decide (bs + 1 < cur) = true ∨ what = wEscape ∧ decide (bs + 1 < cur) = false → Calls Tryd.prog 157 #[.slice (some ad) L.length c, .int .i64 bs, .int .i64 cur] w (Gives w (scalarF q L cur what)) := by
    intro what hwhat
    have hsz : what.size ≤ 10000 := by rcases hwhat with ⟨rfl, _⟩ | ⟨rfl, _⟩ <;> decide
    have hF : cur = (L.length : Int) - 1 → scalarF q L cur what = ⟨badWords q 32 what, cur, true, 0⟩ := fun hc => by unfold scalarF; rw [if_pos hc]
    have hF2 : ¬ (cur = (L.length : Int) - 1) → scalarF q L cur what = ⟨badWords q (rd L cur) what, cur + 1, false, 0⟩ := fun hc => by unfold scalarF; rw [if_neg hc]
    by_cases hc : cur = (L.length : Int) - 1
    · have HF := Aside0.mk (hF hc)
      rw [decide_eq_true hc] at hcall
      have HC := Aside0.mk hcall
      clear hcall hc hF hF2
      rcases hwhat with ⟨rfl, hd⟩ | ⟨rfl, hd⟩
      all_goals
        go_enter Tryd.func157, Tryd.ntmps157
        go_wp2_with fail
        with_reducible refine HC.out.mono ?_
        rintro e w1 ⟨rfl, ⟨n, rfl⟩⟩
        go_wp2_with fail
        with_reducible refine (scalarEnd _ cur bs _ _ (HG.out.drewN _) hsz).mono ?_
        rintro e w2 ⟨v, rfl, hv, hb⟩
        have HV := Aside0.mk hv
        have HB := Aside0.mk hb
        clear hv hb
        go_wp2
        go_ret
        rw [HF.out]
        exact ⟨_, rfl, HV.out, belowD HB.out⟩
    · have HF := Aside0.mk (hF2 hc)
      rw [decide_eq_false hc] at hcall
      have HC := Aside0.mk hcall
      clear hcall hc hF hF2
      rcases hwhat with ⟨rfl, hd⟩ | ⟨rfl, hd⟩
      all_goals
        go_enter Tryd.func157, Tryd.ntmps157
        go_wp2_with fail
        with_reducible refine HC.out.mono ?_
        rintro e w1 ⟨rfl, ⟨n, rfl⟩⟩
        go_wp2_with fail
        with_reducible refine (invalidCharacter q ad c L cur _ _ (HG.out.drewN _) (HB.out.drewN _) h0 h1 hsz).mono ?_
        rintro e w3 ⟨g, rfl, hg, hp, hb⟩
        have HP := Aside0.mk hp
        have HB3 := Aside0.mk hb
        clear hp hb hg
        go_wp2
        go_ret
        rw [HF.out]
        exact ⟨_, rfl, ⟨g, rfl, HP.out⟩, belowD HB3.out⟩
  unfold escWhat
  by_cases h : cur > bs + 1
  · rw [if_pos h]
    exact key _ (.inl ⟨rfl, decide_eq_true h⟩)
  · rw [if_neg h]
    exact key _ (.inr ⟨rfl, decide_eq_false h⟩)
end Go.Proofs.YtfkagnpdapkaaaaDoor.Err
/- What the scanner tells of a text, byte by byte. -/
namespace Go.Proofs.YtfkagnpdapkaaaaDoor.Err
open Go.RowKit Go.Proofs.YtfkagnpdapkaaaaDoorW.PrintWords Go.Proofs.YtfkagnpdapkaaaaDoorW.PrintLast Go.Proofs.YtfkagnpdapkaaaaDoorW.PrintMore
set_option linter.unusedVariables false
/-- What comes behind a value. -/
def contO (q : ByteArray → ByteArray) (L : List Int) (st : List Br) (e : Int) : Out :=
  if isAll (closed st).1 = true then .done e else out q L (closed st).1 (closed st).2 e
/-- A buffer's text: the last byte is a nought. -/
structure Txt (L : List Int) : Prop where
  pos : 0 < L.length
  last : rd L (L.length - 1) = 0
  small : L.length ≤ 10001
  bytes : ∀ i : Int, 0 ≤ i → i < L.length → 0 ≤ rd L i ∧ rd L i < 256
theorem Buf.txt {w : World} {ad : Addr} {c : Nat} {L : List Int} (h : Buf w ad c L) : Txt L := ⟨h.pos, h.last, h.small, fun i h0 h1 => h.byte i h0 h1⟩
theorem step_dig (q : ByteArray → ByteArray) (c : Int) (k : Nat) (st : List Br) : step q c (.dig k) st = if isHex c then .ok (if k + 1 = 4 then .text else .dig (k + 1), st) else .error (badWords q c wHex, false) := rfl
theorem step_word (q : ByteArray → ByteArray) (c : Int) (l : List Int) (k : Nat) (st : List Br) : step q c (.word l k) st = if c = l.getD k 0 then .ok (if k + 1 = l.length then closed st else (.word l (k + 1), st)) else .error (badWords q c (litWhat q l k), false) := rfl
section
variable {q : ByteArray → ByteArray} {L : List Int} {st : List Br} {x : Int}
theorem Txt.inside (hT : Txt L) (h0 : 0 ≤ x) (h1 : x < L.length) (hn : rd L x ≠ 0) : x < (L.length : Int) - 1 := by
  by_cases h : x = (L.length : Int) - 1
  · exfalso
    rw [h] at hn
    exact hn hT.last
  · omega
/-- A step that goes on. -/
theorem out_step {ph ph' : Ph} {st' : List Br} (h0 : 0 ≤ x) (h1 : x < (L.length : Int) - 1) (hs : step q (rd L x) ph st = .ok (ph', st')) (ha : isAll ph' = false) : out q L ph st x = out q L ph' st' (x + 1) := by
  rw [out_at q L ph st x h0 h1, hs]
  simp only [ha]
  rfl
theorem out_err {ph : Ph} {m : ByteArray × Bool} (h0 : 0 ≤ x) (h1 : x < (L.length : Int) - 1) (hs : step q (rd L x) ph st = .error m) (he : ender ph st = false) : out q L ph st x = .fault ⟨m.1, x + 1, false, if m.2 = true then x + 1 else 0⟩ := by
  rw [out_at q L ph st x h0 h1, hs]
  simp only [he]
  rfl
/-- A step that ends a value. -/
theorem out_close {ph : Ph} (h0 : 0 ≤ x) (h1 : x < (L.length : Int) - 1) (hs : step q (rd L x) ph st = .ok (closed st)) (he : ender ph st = false) : out q L ph st x = contO q L st (x + 1) := by
  rw [out_at q L ph st x h0 h1, hs]
  simp only [he]
  rfl
theorem out_stop {ph : Ph} (hT : Txt L) (h1 : x = (L.length : Int) - 1) (he : ender ph st = false) : out q L ph st x = .fault (endF q ph st x) := by
  rw [out_end q L ph st x h1 hT.pos, he]
  rfl
theorem txt_quote (hT : Txt L) (h0 : 0 ≤ x) (h1 : x < L.length) (hc : rd L x = 34) : out q L .text st x = contO q L st (x + 1) :=
  out_close h0 (hT.inside h0 h1 (by omega)) (by rw [hc]; rfl) rfl
theorem txt_low (hT : Txt L) (h0 : 0 ≤ x) (h1 : x < L.length) (hc : rd L x < 32) : out q L .text st x = .fault (faultAt q L x 6) := by
  by_cases h : x = (L.length : Int) - 1
  · rw [out_stop hT h rfl]
    unfold faultAt
    rw [if_pos h]
    rfl
  · rw [out_err (m := (badWords q (rd L x) wString, false)) h0 (by omega) (by unfold step; rw [if_neg (by omega), if_neg (by omega), if_pos hc]) rfl]
    unfold faultAt
    rw [if_neg h]
    rfl
theorem txt_bs (hT : Txt L) (h0 : 0 ≤ x) (h1 : x < L.length) (hc : rd L x = 92) : out q L .text st x = out q L .esc st (x + 1) ∧ x + 1 < L.length := by
  have := hT.inside h0 h1 (by omega)
  exact ⟨out_step h0 this (by rw [hc]; rfl) rfl, by omega⟩
theorem txt_other (hT : Txt L) (h0 : 0 ≤ x) (h1 : x < L.length) (hc : ¬ rd L x < 32) (h3 : rd L x ≠ 34) (h4 : rd L x ≠ 92) : out q L .text st x = out q L .text st (x + 1) ∧ x + 1 < L.length := by
  have := hT.inside h0 h1 (by omega)
  exact ⟨out_step h0 this (by unfold step; rw [if_neg h3, if_neg h4, if_neg hc]) rfl, by omega⟩
theorem esc_ok (hT : Txt L) (h0 : 0 ≤ x) (h1 : x < L.length) (hc : isEsc (rd L x)) : out q L .esc st x = out q L .text st (x + 1) ∧ x + 1 < L.length := by
  have := hT.inside h0 h1 (by unfold isEsc at hc; omega)
  exact ⟨out_step h0 this (by unfold step; rw [if_pos hc]) rfl, by omega⟩
theorem esc_u (hT : Txt L) (h0 : 0 ≤ x) (h1 : x < L.length) (hc : rd L x = 117) : out q L .esc st x = out q L (.dig 0) st (x + 1) ∧ x + 1 < L.length := by
  have := hT.inside h0 h1 (by omega)
  exact ⟨out_step h0 this (by rw [hc]; rfl) rfl, by omega⟩
theorem esc_bad (hT : Txt L) (h0 : 0 ≤ x) (h1 : x < L.length) (hc : ¬ isEsc (rd L x)) (hu : rd L x ≠ 117) : out q L .esc st x = .fault (scalarF q L x wEscape) := by
  unfold scalarF
  by_cases h : x = (L.length : Int) - 1
  · rw [out_stop hT h rfl, if_pos h]
    rfl
  · rw [out_err (m := (badWords q (rd L x) wEscape, false)) h0 (by omega) (by unfold step; rw [if_neg hc, if_neg hu]) rfl, if_neg h]
    rfl
theorem dig_ok {k : Nat} (hT : Txt L) (h0 : 0 ≤ x) (h1 : x < L.length) (hc : isHex (rd L x)) : out q L (.dig k) st x = out q L (if k + 1 = 4 then .text else .dig (k + 1)) st (x + 1) ∧ x + 1 < L.length := by
  have := hT.inside h0 h1 (by unfold isHex isDig at hc; omega)
  exact ⟨out_step h0 this (by rw [step_dig, if_pos hc]) (by split <;> rfl), by omega⟩
theorem dig_bad {k : Nat} (hT : Txt L) (h0 : 0 ≤ x) (h1 : x < L.length) (hc : ¬ isHex (rd L x)) : out q L (.dig k) st x = .fault (scalarF q L x wHex) := by
  unfold scalarF
  by_cases h : x = (L.length : Int) - 1
  · rw [out_stop hT h rfl, if_pos h]
    unfold endF
    rw [step_dig, if_neg (by decide)]
  · rw [out_err (m := (badWords q (rd L x) wHex, false)) h0 (by omega) (by rw [step_dig, if_neg hc]) rfl, if_neg h]
    rfl
/-- What comes of a text does not turn on what is open. -/
def thenO (q : ByteArray → ByteArray) (L : List Int) (st : List Br) : Out → Out
  | .done e => contO q L st e
  | .fault s => .fault s
end
end Go.Proofs.YtfkagnpdapkaaaaDoor.Err
