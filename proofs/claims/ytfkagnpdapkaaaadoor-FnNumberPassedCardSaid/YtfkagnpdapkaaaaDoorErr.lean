/- The makers of the package's syntax errors: what each tells, behind an error's address. -/
import Derived.Test.YtfkagnpdapkaaaaDoorTz
import Derived.Laws.Cover4
namespace Go.Proofs.YtfkagnpdapkaaaaDoor.Err
open Go.RowKit Go.Proofs.YtfkagnpdapkaaaaDoorW.PrintWords Go.Proofs.YtfkagnpdapkaaaaDoorW.PrintLast Go.Proofs.YtfkagnpdapkaaaaDoorW.PrintMore
open Go.Proofs.YtfkagnpdapkaaaaDoor.Tab
set_option linter.unusedVariables false
/-- A syntax error: its words, its offset, whether it tells the end, and the place of a byte that begins no value, plus one. -/
structure SE where
  msg : ByteArray
  off : Int
  atEnd : Bool
  va : Int
/-- A pointer's block is this syntax error. -/
def PT (w : World) (g : Nat) (s : SE) : Prop := w.heap[g]? = some (.cells #[.string s.msg, .int .i64 s.off, .bool s.atEnd, .int .i64 s.va] 89 (0, 0))
/-- A value is an error that is this syntax error. -/
def EV (w : World) (v : Value) (s : SE) : Prop := ∃ g, v = .iface 86 (.pointer (some ⟨g, 0, none⟩)) ∧ PT w g s
theorem blk_lt' {w : World} {g : Nat} {o : Obj} (h : w.heap[g]? = some o) : g < w.heap.size := (Array.getElem?_eq_some_iff.1 h).1
theorem PT.below {w w' : World} {g : Nat} {s : SE} (h : PT w g s) (hb : Below w.heap.size w w') : PT w' g s := by
  unfold PT at h ⊢
  rw [hb.block g (blk_lt' h)]; exact h
theorem EV.below {w w' : World} {v : Value} {s : SE} (h : EV w v s) (hb : Below w.heap.size w w') : EV w' v s := by
  obtain ⟨g, e, hp⟩ := h
  exact ⟨g, e, hp.below hb⟩
/-- What a maker of pointers answers. -/
def GivesP (w : World) (s : SE) (e : Ending) (w' : World) : Prop := ∃ g, e = .returned (.pointer (some ⟨g, 0, none⟩)) ∧ w.heap.size ≤ g ∧ PT w' g s ∧ Below w.heap.size w w'
/-- What a maker of errors answers. -/
def Gives (w : World) (s : SE) (e : Ending) (w' : World) : Prop := ∃ v, e = .returned v ∧ EV w' v s ∧ Below w.heap.size w w'
theorem errSyntax (msg : ByteArray) (off : Int) (w : World) : Calls Tryd.prog 128 #[.string msg, .int .i64 off] w (GivesP w ⟨msg, off, false, 0⟩) := by
  go_enter Tryd.func128, Tryd.ntmps128
  go_wp2
  go_ret
  exact ⟨_, rfl, Nat.le_refl _, blk_new w _, below_alloc (Below.refl _ _) _⟩
theorem errSyntaxAtEnd (msg : ByteArray) (off : Int) (w : World) : Calls Tryd.prog 149 #[.string msg, .int .i64 off] w (GivesP w ⟨msg, off, true, 0⟩) := by
  go_enter Tryd.func149, Tryd.ntmps149
  go_wp2
  go_ret
  exact ⟨_, rfl, Nat.le_refl _, blk_new w _, below_alloc (Below.refl _ _) _⟩
theorem errUnexpectedEnd (msg : ByteArray) (off : Int) (w : World) (hm : msg.size ≤ 100000) : Calls Tryd.prog 127 #[.string msg, .int .i64 off] w fun e w' => ∃ s, GivesP w s e w' := by
  go_enter Tryd.func127, Tryd.ntmps127
  go_wp2
  go_ret
  exact ⟨⟨_, _, _, _⟩, _, rfl, Nat.le_refl _, blk_new w _, below_alloc (Below.refl _ _) _⟩
/-- The words for the end of a text. -/
def endWords : ByteArray := ⟨#[117, 110, 101, 120, 112, 101, 99, 116, 101, 100, 32, 101, 110, 100, 32, 111, 102, 32, 74, 83, 79, 78, 32, 105, 110, 112, 117, 116]⟩
theorem endError (at_ : Int) (w : World) : Calls Tryd.prog 133 #[.int .i64 at_] w (Gives w ⟨endWords, at_, true, 0⟩) := by
  go_enter Tryd.func133, Tryd.ntmps133
  go_wp2_with fail
  refine (errSyntaxAtEnd _ _ _).mono ?_
  rintro e w' ⟨g, rfl, hg, hp, hb⟩
  go_wp2
  go_ret
  exact ⟨_, rfl, ⟨g, rfl, hp⟩, hb⟩
/-- What all walks stand on: the tables, and that strconv.Quote answers one function of its text, of two bytes or more. -/
structure G (q : ByteArray → ByteArray) (w : World) : Prop where
  tab : Glob w
  two : ∀ s, 2 ≤ (q s).size
  low : ∀ c, 0 ≤ c → c < 256 → (q (Utf8.encode c)).size ≤ 1000
  sp : q (Utf8.encode 32) = ⟨#[34, 32, 34]⟩
  quote : ∀ s w', s.size ≤ 100 → Below w.heap.size w w' → Calls Tryd.prog 54 #[.string s] w' fun e w'' => e = .returned (.string (q s)) ∧ Below w'.heap.size w' w''
theorem G.below {q : ByteArray → ByteArray} {w w' : World} (h : G q w) (hb : Below w.heap.size w w') : G q w' :=
  ⟨h.tab.below hb, h.two, h.low, h.sp, fun s w2 hs h2 => h.quote s w2 hs (below_step hb h2)⟩

/-- A byte between quotes, as the faults tell it. -/
def quoted (q : ByteArray → ByteArray) (c : Int) : ByteArray :=
  if c = 39 then ⟨#[39, 92, 39, 39]⟩ else if c = 34 then ⟨#[39, 34, 39]⟩ else ⟨#[39]⟩ ++ (q (Utf8.encode c)).extract 1 ((q (Utf8.encode c)).size - 1) ++ ⟨#[39]⟩
set_option maxRecDepth 100000 in
set_option maxHeartbeats 4000000 in
theorem quoteChar (q : ByteArray → ByteArray) (c : Int) (w : World) (hG : G q w) (h0 : 0 ≤ c) (h1 : c < 256) : Calls Tryd.prog 129 #[.int .u8 c] w fun e w' => e = .returned (.string (quoted q c)) ∧ Below w.heap.size w w' := by
  have hq := hG.quote
  have h2 := hG.two (Utf8.encode c)
  have h3 := hG.low c h0 h1
  clear hG
  by_cases c1 : c = 39
  · subst c1
    go_enter Tryd.func129, Tryd.ntmps129
    go_wp2
    go_ret
    exact ⟨rfl, Below.refl _ _⟩
  by_cases c2 : c = 34
  · subst c2
    go_enter Tryd.func129, Tryd.ntmps129
    go_wp2
    go_ret
    exact ⟨rfl, Below.refl _ _⟩
  have f1 : (c == 39) = false := beq_eq_false_iff_ne.mpr c1
  have f2 : (c == 34) = false := beq_eq_false_iff_ne.mpr c2
  go_enter Tryd.func129, Tryd.ntmps129
  go_wp2_with fail
  refine (hq _ w (by have := encode_size_le c; omega) (Below.refl _ _)).mono ?_
  rintro e w' ⟨rfl, hb⟩
  have HB := Aside0.mk hb
  clear hb hq
  go_wp2
  rw [Go.run_slice_string _ 9 _ _ _ _ _ Tryd.underlying9 (by omega) (by omega) (by omega)]
  go_wp2
  go_ret
  refine ⟨?_, HB.out⟩
  unfold quoted
  rw [if_neg c1, if_neg c2]
  rfl
theorem G.drewN {q : ByteArray → ByteArray} {w : World} (h : G q w) (n : Nat) : G q (w.drewN n) := h.below (pw_below_drewN (Below.refl _ _) n)
/-- What lies below stays so when what came after is drawn ahead. -/
theorem belowD {w w' : World} {n : Nat} (h : Below (w.drewN n).heap.size (w.drewN n) w') : Below w.heap.size w w' := below_step (pw_below_drewN (Below.refl _ _) n) h
theorem quoted_size (q : ByteArray → ByteArray) (c : Int) (w : World) (hG : G q w) (h0 : 0 ≤ c) (h1 : c < 256) : (quoted q c).size ≤ 2000 := by
  have h2 := hG.low c h0 h1
  unfold quoted
  split
  · decide
  split
  · decide
  · simp only [ByteArray.size_append, ByteArray.size_extract]
    have : (⟨#[39]⟩ : ByteArray).size = 1 := rfl
    omega
/-- The bytes behind a buffer's address: a text and a nought behind it. -/
structure Buf (w : World) (ad : Addr) (c : Nat) (L : List Int) : Prop where
  C : Kd.C (Kd.int .u8) w (some ad) L.length L
  cap : L.length ≤ c
  bytes : ∀ x, x ∈ L → 0 ≤ x ∧ x < 256
  pos : 0 < L.length
  small : L.length ≤ 10001
  last : rd L (L.length - 1) = 0
section
variable {w w' : World} {ad : Addr} {c : Nat} {L : List Int}
theorem Buf.below (h : Buf w ad c L) (hb : Below w.heap.size w w') : Buf w' ad c L := ⟨Kd.C_below h.C hb, h.cap, h.bytes, h.pos, h.small, h.last⟩
theorem Buf.drewN (h : Buf w ad c L) (n : Nat) : Buf (w.drewN n) ad c L := h.below (pw_below_drewN (Below.refl _ _) n)
theorem Buf.at_ (h : Buf w ad c L) (i : Int) (h0 : 0 ≤ i) (h1 : i < L.length) : w.cell? (ad.add i.toNat) = some (.int .u8 (rd L i)) := by
  obtain ⟨ad', e, hx⟩ := Kd.at_int h.C i h0 h1
  cases e
  exact hx
theorem rd_get (L : List Int) (i : Int) (h0 : 0 ≤ i) (h1 : i < L.length) : ∃ h : i.toNat < L.length, rd L i = L[i.toNat] := by
  have h : i.toNat < L.length := by omega
  refine ⟨h, ?_⟩
  unfold rd
  simp [h]
theorem Buf.byte (h : Buf w ad c L) (i : Int) (h0 : 0 ≤ i) (h1 : i < L.length) : 0 ≤ rd L i ∧ rd L i < 256 := by
  obtain ⟨hh, e⟩ := rd_get L i h0 h1
  rw [e]
  exact h.bytes _ (List.getElem_mem _)
/-- A byte that is no nought is not the last one. -/
theorem Buf.next (h : Buf w ad c L) (i : Int) (h0 : 0 ≤ i) (h1 : i < L.length) (hn : rd L i ≠ 0) : i + 1 < L.length := by
  have := h.last
  by_cases h2 : i + 1 < L.length
  · exact h2
  · exfalso
    have : i = L.length - 1 := by omega
    rw [this] at hn
    exact hn h.last
end
end Go.Proofs.YtfkagnpdapkaaaaDoor.Err
