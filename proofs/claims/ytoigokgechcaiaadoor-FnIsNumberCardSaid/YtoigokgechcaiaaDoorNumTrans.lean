/- The table of states of IsValid: what transitions() makes, its loops walked one by one. -/
import Derived.Test.YtoigokgechcaiaaDoorNumDfa
import Derived.Test.YtoigokgechcaiaaDoorTz
import Derived.Laws.Tables
import Derived.Laws.Rows
namespace Go.Proofs.YtoigokgechcaiaaDoor.Dig
open Go.RowKit Go.Proofs.YtoigokgechcaiaaDoorW.PrintWords Go.Proofs.YtoigokgechcaiaaDoorW.PrintLast Go.Proofs.YtoigokgechcaiaaDoorW.PrintMore
set_option linter.unusedVariables false
/-- 2560 cells, told by a function. -/
def cellsOf (k : IntKind) (F : Nat → Int) : Array Value := ((List.range 2560).map fun j => Value.int k (F j)).toArray
theorem cellsOf_size (k : IntKind) (F : Nat → Int) : (cellsOf k F).size = 2560 := by unfold cellsOf; rw [List.size_toArray, List.length_map, List.length_range]
theorem cells_get (n : Nat) (k : IntKind) (F : Nat → Int) (j : Nat) (h : j < n) : ((List.range n).map fun j => Value.int k (F j)).toArray[j]? = some (.int k (F j)) := by
  rw [List.getElem?_toArray, List.getElem?_map, List.getElem?_range h]
  rfl
theorem cellsOf_get (k : IntKind) (F : Nat → Int) (j : Nat) (h : j < 2560) : (cellsOf k F)[j]? = some (.int k (F j)) := cells_get 2560 k F j h
theorem cellsOf_congr (k : IntKind) {F G : Nat → Int} (h : ∀ j, j < 2560 → F j = G j) : cellsOf k F = cellsOf k G := by
  unfold cellsOf
  exact congrArg List.toArray (List.map_congr_left fun j hj => by rw [h j (List.mem_range.1 hj)])
/-- One cell written. -/
def put (F : Nat → Int) (i : Nat) (v : Int) (j : Nat) : Int := if j = i then v else F j
theorem cellsOf_put (k : IntKind) (F : Nat → Int) (i : Nat) (v : Int) (h : i < 2560) : (cellsOf k F).set! i (.int k v) = cellsOf k (put F i v) := by
  apply Array.ext_getElem?
  intro j
  by_cases hj : j < 2560
  · rw [cellsOf_get k _ j hj, Array.set!_eq_setIfInBounds, Array.getElem?_setIfInBounds]
    unfold put
    by_cases hij : j = i
    · subst hij; simp [cellsOf_size, h]
    · rw [if_neg (fun e => hij e.symm), cellsOf_get k F j hj, if_neg hij]
  · rw [Array.getElem?_eq_none (by rw [Array.set!_eq_setIfInBounds, Array.size_setIfInBounds, cellsOf_size]; omega), Array.getElem?_eq_none (by rw [cellsOf_size]; omega)]
/-- A block is 2560 cells. -/
def Blk (w : World) (b : Nat) (k : IntKind) (t : TypeId) (F : Nat → Int) : Prop := w.heap[b]? = some (.cells (cellsOf k F) t (0, 0))
theorem Blk.cell {w : World} {b : Nat} {k : IntKind} {t : TypeId} {F : Nat → Int} (h : Blk w b k t F) (j : Nat) (hj : j < 2560) : w.cell? ⟨b, j, none⟩ = some (.int k (F j)) ∧ w.frozen? ⟨b, j, none⟩ = false := by
  unfold Blk at h
  constructor <;> simp [World.cell?, World.frozen?, h, cellsOf_get k F j hj]
theorem Blk.put {w : World} {b : Nat} {k : IntKind} {t : TypeId} {F : Nat → Int} (h : Blk w b k t F) (j : Nat) (hj : j < 2560) (v : Int) : Blk (w.setCell ⟨b, j, none⟩ (.int k v)) b k t (put F j v) := by
  have h1 := heap_setCell_same w b j _ t (.int k v) h
  unfold Blk
  rw [← cellsOf_put k F j v hj]
  simpa using h1
theorem Blk.other {w : World} {b c : Nat} {k : IntKind} {t : TypeId} {F : Nat → Int} (h : Blk w b k t F) (hc : b ≠ c) (j : Nat) (v : Value) : Blk (w.setCell ⟨c, j, none⟩ v) b k t F := by
  unfold Blk at h ⊢
  rw [heap_setCell_other w ⟨c, j, none⟩ b v (fun e => hc e)]
  exact h
theorem Blk.below {w w' : World} {b : Nat} {k : IntKind} {t : TypeId} {F : Nat → Int} (h : Blk w b k t F) (n : Nat) (hn : b < n) (hb : Below n w w') : Blk w' b k t F := by
  unfold Blk at h ⊢
  rw [hb.block b hn]
  exact h
theorem Blk.lt {w : World} {b : Nat} {k : IntKind} {t : TypeId} {F : Nat → Int} (h : Blk w b k t F) : b < w.heap.size := (Array.getElem?_eq_some_iff.1 h).1
theorem Blk.congr {w : World} {b : Nat} {k : IntKind} {t : TypeId} {F G : Nat → Int} (h : Blk w b k t F) (hg : ∀ j, j < 2560 → F j = G j) : Blk w b k t G := by
  unfold Blk at h ⊢
  rw [h, cellsOf_congr k hg]
set_option maxRecDepth 100000 in
theorem zero41 (w : World) : Sem.run Tryd.prog (zeroValue 41) w = .ok (.agg (cellsOf .u16 fun _ => 0)) w := by kernel_rfl
set_option maxRecDepth 100000 in
theorem zero47 (w : World) : Sem.run Tryd.prog (zeroValue 47) w = .ok (.agg (cellsOf .u8 fun _ => 0)) w := by kernel_rfl
/-- The closure: ten digits of a row. -/
def digs (F : Nat → Int) (s v : Int) (j : Nat) : Int := if s * 256 + 48 ≤ j ∧ (j : Int) ≤ s * 256 + 57 then v else F j
def digsTo (F : Nat → Int) (s v c : Int) (j : Nat) : Int := if s * 256 + 48 ≤ j ∧ (j : Int) < s * 256 + c then v else F j
set_option maxRecDepth 100000 in
set_option maxHeartbeats 4000000 in
theorem digits24 (b : Nat) (F : Nat → Int) (s v : Int) (w : World) (hs0 : 0 ≤ s) (hs : s < 10) (hv0 : 0 ≤ v) (hv : v < 256) (hb : Blk w b .u8 47 F) :
    Calls Tryd.prog 24 #[.int .u8 s, .int .u8 v, .pointer (some ⟨b, 0, none⟩)] w fun e w' => e = .returned (.tuple #[]) ∧ Blk w' b .u8 47 (digs F s v) ∧ ∀ n, n ≤ b → Below n w w' := by
  have HB := Aside0.mk hb
  clear hb
  go_enter Tryd.func24, Tryd.ntmps24
  go_wp2_with fail
  go_loopg [5] 10 (fun kq v5 w' => ∃ (c : Int), v5 = .int .i32 c ∧ Aside0 (48 ≤ c ∧ c + kq = 58 ∧ Blk w' b .u8 47 (digsTo F s v c) ∧ ∀ n, n ≤ b → Below n w w'))
  case atStart => exact ⟨48, rfl, ⟨by omega, by omega, HB.out.congr fun j hj => by unfold digsTo; rw [if_neg (by omega)], fun n hn => Below.refl _ _⟩⟩
  case round =>
    obtain ⟨c, rfl, HA⟩ := hrel
    obtain ⟨hc0, hck, hblk, hbel⟩ := HA.out
    by_cases hc : c ≤ 57
    · obtain ⟨c0, c1⟩ := hblk.cell (s.toNat * 256 + c.toNat) (by omega)
      obtain _ | g0 := gk
      · exfalso; omega
      have HBL := Aside0.mk hblk
      have HBE := Aside0.mk hbel
      clear HA hblk hbel
      go_wp2_with fail
      go_roundg g0
      case measure => omega
      case rel =>
        refine ⟨c + 1, rfl, ⟨by omega, by omega, ((HBL.out.put (s.toNat * 256 + c.toNat) (by omega) v).congr fun j hj => ?_), fun n hn => (HBE.out n hn).setCell hn _⟩⟩
        unfold put digsTo
        by_cases h1 : j = s.toNat * 256 + c.toNat
        · rw [if_pos h1, if_pos (by omega)]
        · rw [if_neg h1]
          by_cases h2 : s * 256 + 48 ≤ j ∧ (j : Int) < s * 256 + c
          · rw [if_pos h2, if_pos (by omega)]
          · rw [if_neg h2, if_neg (by omega)]
    · have HBL : Aside0 (Blk wr b .u8 47 (digs F s v)) := ⟨hblk.congr fun j hj => by
        unfold digsTo digs
        by_cases h2 : s * 256 + 48 ≤ j ∧ (j : Int) < s * 256 + c
        · rw [if_pos h2, if_pos (by omega)]
        · rw [if_neg h2, if_neg (by omega)]⟩
      have HBE := Aside0.mk hbel
      clear HA hblk hbel
      go_wp2_with fail
      go_end0
      exact ⟨rfl, HBL.out, HBE.out⟩
/-- The blocks of transitions: its result, the flat table, the table of states. -/
structure TS (w0 w : World) (F G : Nat → Int) : Prop where
  b0 : Blk w w0.heap.size .u16 41 (fun _ => 0)
  b1 : Blk w (w0.heap.size + 1) .u16 41 G
  b2 : Blk w (w0.heap.size + 1 + 1) .u8 47 F
  below : Below w0.heap.size w0 w
section
variable {w0 w w' : World} {F F' G : Nat → Int}
theorem TS.put8 (h : TS w0 w F G) (j : Nat) (hj : j < 2560) (v : Int) : TS w0 (w.setCell ⟨w0.heap.size + 1 + 1, j, none⟩ (.int .u8 v)) (put F j v) G :=
  ⟨h.b0.other (by omega) _ _, h.b1.other (by omega) _ _, h.b2.put j hj v, h.below.setCell (show w0.heap.size ≤ w0.heap.size + 1 + 1 by omega) _⟩
theorem TS.put16 (h : TS w0 w F G) (j : Nat) (hj : j < 2560) (v : Int) : TS w0 (w.setCell ⟨w0.heap.size + 1, j, none⟩ (.int .u16 v)) F (put G j v) :=
  ⟨h.b0.other (by omega) _ _, h.b1.put j hj v, h.b2.other (by omega) _ _, h.below.setCell (show w0.heap.size ≤ w0.heap.size + 1 by omega) _⟩
theorem TS.called (h : TS w0 w F G) (hb : Blk w' (w0.heap.size + 1 + 1) .u8 47 F') (hn : ∀ n, n ≤ w0.heap.size + 1 + 1 → Below n w w') : TS w0 w' F' G :=
  ⟨h.b0.below _ (by omega) (hn (w0.heap.size + 1 + 1) (Nat.le_refl _)), h.b1.below _ (by omega) (hn (w0.heap.size + 1 + 1) (Nat.le_refl _)), hb, h.below.trans (hn _ (by omega))⟩
theorem TS.step (h : TS w0 w F G) (hb : Below w.heap.size w w') : TS w0 w' F G :=
  ⟨h.b0.below _ h.b0.lt hb, h.b1.below _ h.b1.lt hb, h.b2.below _ h.b2.lt hb, below_step h.below hb⟩
theorem TS.congr (h : TS w0 w F G) (hf : ∀ j, j < 2560 → F j = F' j) : TS w0 w F' G := ⟨h.b0, h.b1, h.b2.congr hf, h.below⟩
end
theorem ts_start (w : World) : TS w (((w.alloc (.cells (cellsOf .u16 fun _ => 0) 41)).alloc (.cells (cellsOf .u16 fun _ => 0) 41)).alloc (.cells (cellsOf .u8 fun _ => 0) 47)) (fun _ => 0) fun _ => 0 := by
  have h1 := blk_new w (.cells (cellsOf .u16 fun _ => 0) 41)
  have h2 := blk_new (w.alloc (.cells (cellsOf .u16 fun _ => 0) 41)) (.cells (cellsOf .u16 fun _ => 0) 41)
  have h3 := blk_new ((w.alloc (.cells (cellsOf .u16 fun _ => 0) 41)).alloc (.cells (cellsOf .u16 fun _ => 0) 41)) (.cells (cellsOf .u8 fun _ => 0) 47)
  have s1 : (w.alloc (.cells (cellsOf .u16 fun _ => 0) 41)).heap.size = w.heap.size + 1 := by simp
  have s2 : ((w.alloc (.cells (cellsOf .u16 fun _ => 0) 41)).alloc (.cells (cellsOf .u16 fun _ => 0) 41)).heap.size = w.heap.size + 1 + 1 := by simp
  rw [s1] at h2
  rw [s2] at h3
  refine ⟨?_, ?_, h3, below_alloc (below_alloc (below_alloc (Below.refl _ _) _) _) _⟩
  · unfold Blk
    rw [Below.heap_alloc _ _ _ (by rw [s2]; omega), Below.heap_alloc _ _ _ (by rw [s1]; omega)]
    exact h1
  · unfold Blk
    rw [Below.heap_alloc _ _ _ (by rw [s2]; omega)]
    exact h2
/-- A row's integer: 0, and 1 to 9 up to c. -/
def intTo (F : Nat → Int) (s c : Int) (j : Nat) : Int := if s * 256 + 49 ≤ j ∧ (j : Int) < s * 256 + c then 3 else put F (s * 256 + 48).toNat 2 j
theorem intTo_step (F : Nat → Int) (n : Nat) (c : Int) (h0 : 49 ≤ c) (h1 : c ≤ 57) (j : Nat) : put (intTo F n c) (n * 256 + c.toNat) 3 j = intTo F n (c + 1) j := by
  show (if j = n * 256 + c.toNat then 3 else if (n : Int) * 256 + 49 ≤ j ∧ (j : Int) < n * 256 + c then 3 else put F ((n : Int) * 256 + 48).toNat 2 j) = if (n : Int) * 256 + 49 ≤ j ∧ (j : Int) < n * 256 + (c + 1) then 3 else put F ((n : Int) * 256 + 48).toNat 2 j
  by_cases h2 : j = n * 256 + c.toNat
  · rw [if_pos h2, if_pos (by omega)]
  · rw [if_neg h2]
    by_cases h3 : (n : Int) * 256 + 49 ≤ j ∧ (j : Int) < n * 256 + c
    · rw [if_pos h3, if_pos (by omega)]
    · rw [if_neg h3, if_neg (by omega)]
/-- A row's point and exponent. -/
def expo (F : Nat → Int) (s : Nat) : Nat → Int := put (put (put F (s * 256 + 46) 4) (s * 256 + 101) 6) (s * 256 + 69) 6
def expos (F : Nat → Int) : Nat → Nat → Int
  | 0 => F
  | n + 1 => expo (expos F n) (n + 2)
/-- The first two rows. -/
def ints (F : Nat → Int) : Nat → Nat → Int
  | 0 => F
  | n + 1 => intTo (ints F n) n 58
theorem two_keep {w : World} {b c : Nat} {x y : Value} (h : w.heap[c]? = some (.cells #[x, y] 5 (0, 0))) (hc : b ≠ c) (j : Nat) (v : Value) : (w.setCell ⟨b, j, none⟩ v).heap[c]? = some (.cells #[x, y] 5 (0, 0)) := by
  rw [heap_setCell_other w ⟨b, j, none⟩ c v (fun e => hc e.symm)]
  exact h
theorem below_setRow {n g : Nat} {w w' : World} (cs : Array Value) (h : Below n w w') (hg : n ≤ g) : Below n w (w'.setRow g cs) :=
  ⟨h.os, h.tape, h.output, by have := h.size; simpa [World.setRow] using this, fun k hk => (setRow_other w' g k cs (by omega)).trans (h.block k hk)⟩
/-- The table of states, row by row. -/
def tblF (j : Nat) : Int := (del (j / 256) ((j % 256 : Nat) : Int) : Nat)
def allF : Nat → Int := digs (digs (digs (put (put (put (put (digs (digs (expos (digs (ints (put (fun _ => 9) 45 1) 2) 3 3) 2) 4 5) 5 5) 1381 6) 1349 6) 1579 7) 1581 7) 6 8) 7 8) 8 8
set_option maxRecDepth 100000 in
theorem all_tbl : ∀ j : Fin 2560, allF j.1 = tblF j.1 := by decide +kernel
set_option maxRecDepth 100000 in
theorem tbl_small : ∀ j : Fin 2560, 0 ≤ tblF j.1 ∧ tblF j.1 ≤ 9 := by decide +kernel
/-- The flat table up to a place. -/
def flatTo (n : Int) (j : Nat) : Int := if (j : Int) < n then tblF j * 256 else 0
def flatF (j : Nat) : Int := tblF j * 256
def fill9 (s c : Int) (j : Nat) : Int := if (j : Int) < s * 256 + c then 9 else 0
set_option maxRecDepth 100000 in
set_option maxHeartbeats 4000000 in
theorem transitions (w : World) : Calls Tryd.prog 23 #[] w fun e w' => e = .returned (.agg (cellsOf .u16 flatF)) ∧ Below w.heap.size w w' := by
  have z41 := zero41
  have z47 := zero47
  go_enter Tryd.func23, Tryd.ntmps23
  go_upto_region 3 with (simp only [z41, z47])
  clear z41 z47
  go_cut [13] from 14 to 24 (fun v13 wx => v13 = .int .i64 0 ∧ Aside0 (TS w wx (fun _ => 0) fun _ => 0))
  case first =>
    go_wp2_with fail
    go_meet
    case rel =>
      exact ⟨rfl, ⟨ts_start w⟩⟩
  case rest =>
    obtain ⟨rfl, HT⟩ := hcut
    go_upto_block 0 with (fail)
    go_cut [13] from 14 to 24 (fun v13 wx => Aside0 (TS w wx (fun _ => 9) fun _ => 0))
    case first =>
      go_wp2_with fail
      go_loopg [13] 11 (fun kq v13 w' => ∃ (s : Int), v13 = .int .i64 s ∧ Aside0 (0 ≤ s ∧ s ≤ 10 ∧ s + kq = 10 + 1 ∧ TS w w' (fill9 s 0) fun _ => 0))
      case atStart => exact ⟨0, rfl, ⟨by omega, by omega, by omega, HT.out.congr fun j hj => by unfold fill9; rw [if_neg (by omega)]⟩⟩
      case round =>
        obtain ⟨s, rfl, HA⟩ := hrel
        obtain ⟨hs0, hs10, hsk, hts⟩ := HA.out
        clear HT HA
        have HTS := Aside0.mk hts
        by_cases hs : s < 10
        · obtain _ | g0 := gk
          · exfalso; omega
          have hw : wrap64 (s + 1) = s + 1 := by unfold wrap64; omega
          clear hts
          go_wp2_with fail
          go_loopg [16] 257 (fun kq v16 w' => ∃ (c : Int), v16 = .int .i64 c ∧ Aside0 (0 ≤ c ∧ c ≤ 256 ∧ c + kq = 256 + 1 ∧ TS w w' (fill9 s c) fun _ => 0))
          case atStart => exact ⟨0, rfl, ⟨by omega, by omega, by omega, HTS.out⟩⟩
          case round =>
            obtain ⟨c, rfl, HA⟩ := hrel
            obtain ⟨hc0, hc256, hck, hts⟩ := HA.out
            clear HA HTS
            by_cases hc : c < 256
            · obtain _ | g1 := gk
              · exfalso; omega
              obtain ⟨c0, c1⟩ := hts.b2.cell (s.toNat * 256 + c.toNat) (by omega)
              have HTS := Aside0.mk hts
              have hw2 : wrap64 (c + 1) = c + 1 := by unfold wrap64; omega
              clear hts
              go_wp2_with fail
              go_roundg g1
              case measure => omega
              case rel =>
                refine ⟨c + 1, rfl, ⟨by omega, by omega, by omega, (HTS.out.put8 (s.toNat * 256 + c.toNat) (by omega) 9).congr fun j hj => ?_⟩⟩
                unfold put fill9
                by_cases h1 : j = s.toNat * 256 + c.toNat
                · rw [if_pos h1, if_pos (by omega)]
                · rw [if_neg h1]
                  by_cases h2 : (j : Int) < s * 256 + c
                  · rw [if_pos h2, if_pos (by omega)]
                  · rw [if_neg h2, if_neg (by omega)]
            · have HTS : Aside0 (TS w wr (fill9 (s + 1) 0) fun _ => 0) := ⟨hts.congr fun j hj => by
                unfold fill9
                by_cases h2 : (j : Int) < s * 256 + c
                · rw [if_pos h2, if_pos (by omega)]
                · rw [if_neg h2, if_neg (by omega)]⟩
              clear hts
              go_wp2_with fail
              go_roundg g0
              case measure => omega
              case rel => exact ⟨s + 1, rfl, ⟨by omega, by omega, by omega, HTS.out⟩⟩
        · go_wp2_with fail
          go_meet
          case rel => exact ⟨hts.congr fun j hj => by unfold fill9; rw [if_pos (by omega)]⟩
    case rest =>
      clear HT
      have HT := hcut
      clear hcut
      obtain ⟨c0, c1⟩ := HT.out.b2.cell 45 (by omega)
      go_upto_region 14 with (fail)
      have HT1 := Aside0.mk (HT.out.put8 45 (by omega) 1)
      have hlt := HT1.out.b2.lt
      clear HT c0 c1
      go_upto_block 4 with (fail)
      go_cut [30] from 31 to 45 (fun v30 wx => Aside0 (TS w wx (ints (put (fun _ => 9) 45 1) 2) fun _ => 0))
      case first =>
        have HTA := Aside0.mk (HT1.out.step (below_alloc (Below.refl _ _) (.cells #[.int .u8 0, .int .u8 1] 5)))
        have hsz : (wc.setCell ⟨w.heap.size + 1 + 1, 45, none⟩ (.int .u8 1)).heap.size = wc.heap.size := by simp
        have HSL : Aside0 (((wc.setCell ⟨w.heap.size + 1 + 1, 45, none⟩ (.int .u8 1)).alloc (.cells #[.int .u8 0, .int .u8 1] 5)).heap[wc.heap.size]? = some (.cells #[.int .u8 0, .int .u8 1] 5 (0, 0))) := ⟨by
          have := blk_new (wc.setCell ⟨w.heap.size + 1 + 1, 45, none⟩ (.int .u8 1)) (.cells #[.int .u8 0, .int .u8 1] 5)
          rw [hsz] at this
          exact this⟩
        rw [hsz] at hlt
        clear HT1 hsz
        go_wp2_with fail
        go_loopg [30] 3 (fun kq v30 w' => ∃ (y : Int), v30 = .int .i64 y ∧ Aside0 (∃ n : Nat, y = n ∧ n ≤ 2 ∧ n + kq = 3 ∧ TS w w' (ints (put (fun _ => 9) 45 1) n) fun _ => 0) ∧ Aside0 (w'.heap[wc.heap.size]? = some (.cells #[.int .u8 0, .int .u8 1] 5 (0, 0))))
        case atStart => exact ⟨0, rfl, ⟨0, rfl, by omega, rfl, HTA.out⟩, HSL⟩
        case round =>
          clear HTA HSL
          obtain ⟨y, rfl, HA, HSL⟩ := hrel
          obtain ⟨n, rfl, hn2, hnk, hts⟩ := HA.out
          clear HA
          by_cases hn : n < 2
          · obtain _ | g0 := gk
            · exfalso; omega
            have hx : wr.cell? ⟨wc.heap.size, n, none⟩ = some (.int .u8 n) := by
              have h := HSL.out
              rcases (show n = 0 ∨ n = 1 by omega) with rfl | rfl <;> simp [World.cell?, h]
            obtain ⟨c0, c1⟩ := hts.b2.cell (n * 256 + 48) (by omega)
            have HTS := Aside0.mk (hts.put8 (n * 256 + 48) (by omega) 2)
            have HS2 := Aside0.mk (two_keep HSL.out (Nat.ne_of_lt hlt) (n * 256 + 48) (.int .u8 2))
            clear hts HSL
            go_wp2_with fail
            go_loopg [8] 10 (fun kq v8 w' => ∃ (c : Int), v8 = .int .i32 c ∧ Aside0 (49 ≤ c ∧ c ≤ 58 ∧ c + kq = 59 ∧ TS w w' (intTo (ints (put (fun _ => 9) 45 1) n) n c) fun _ => 0) ∧ Aside0 (w'.heap[wc.heap.size]? = some (.cells #[.int .u8 0, .int .u8 1] 5 (0, 0))))
            case atStart => exact ⟨49, rfl, ⟨by omega, by omega, by omega, HTS.out.congr fun j hj => by unfold intTo; rw [if_neg (by omega), show ((n : Int) * 256 + 48).toNat = n * 256 + 48 by omega]⟩, HS2⟩
            case round =>
              clear HTS HS2
              obtain ⟨c, rfl, HA, HSL⟩ := hrel
              obtain ⟨hc0, hc1, hck, hts⟩ := HA.out
              clear HA
              by_cases hc : c ≤ 57
              · obtain _ | g1 := gk
                · exfalso; omega
                obtain ⟨c0, c1⟩ := hts.b2.cell (n * 256 + c.toNat) (by omega)
                have HTS := Aside0.mk (hts.put8 (n * 256 + c.toNat) (by omega) 3)
                have HS2 := Aside0.mk (two_keep HSL.out (Nat.ne_of_lt hlt) (n * 256 + c.toNat) (.int .u8 3))
                clear hts HSL
                go_wp2_with fail
                go_roundg g1
                case measure => omega
                case rel =>
                  exact ⟨c + 1, rfl, ⟨by omega, by omega, by omega, HTS.out.congr fun j hj => intTo_step _ n c hc0 hc j⟩, HS2⟩
              · have HTS : Aside0 (TS w wr (ints (put (fun _ => 9) 45 1) (n + 1)) fun _ => 0) := ⟨by
                  obtain rfl : c = 58 := by omega
                  exact hts⟩
                clear hts
                go_wp2_with fail
                go_roundg g0
                case measure => omega
                case rel => exact ⟨n + 1, rfl, ⟨n + 1, rfl, by omega, by omega, HTS.out⟩, HSL⟩
          · obtain rfl : n = 2 := by omega
            have HTS := Aside0.mk hts
            clear hts
            go_wp2_with fail
            go_meet
            case rel => exact HTS
      case rest =>
        clear HT1 hlt
        have HT2 := hcut
        clear hcut
        obtain ⟨F2, hF2⟩ : ∃ F2, F2 = ints (put (fun _ => 9) 45 1) 2 := ⟨_, rfl⟩
        rw [← hF2] at HT2
        have HF2 := Aside0.mk hF2
        clear hF2
        go_upto_region 23 with (fail)
        go_wp2_with fail
        with_reducible refine (digits24 _ _ 3 3 _ (by omega) (by omega) (by omega) (by omega) HT2.out.b2).mono ?_
        rintro e w5 ⟨rfl, hb5, hn5⟩
        have HT3 := Aside0.mk (HT2.out.called hb5 hn5)
        have hlt := hb5.lt
        clear hb5 hn5 HT2
        go_upto_block 8 with (fail)
        go_cut [50] from 51 to 63 (fun v50 wx => Aside0 (TS w wx (expos (digs F2 3 3) 2) fun _ => 0))
        case first =>
          have HTA := Aside0.mk (HT3.out.step (below_alloc (Below.refl _ _) (.cells #[.int .u8 2, .int .u8 3] 5)))
          have HSL : Aside0 ((w5.alloc (.cells #[.int .u8 2, .int .u8 3] 5)).heap[w5.heap.size]? = some (.cells #[.int .u8 2, .int .u8 3] 5 (0, 0))) := ⟨blk_new w5 _⟩
          clear HT3
          go_wp2_with fail
          go_loopg [50] 3 (fun kq v50 w' => ∃ (y : Int), v50 = .int .i64 y ∧ Aside0 (∃ n : Nat, y = n ∧ n ≤ 2 ∧ n + kq = 3 ∧ TS w w' (expos (digs F2 3 3) n) fun _ => 0) ∧ Aside0 (w'.heap[w5.heap.size]? = some (.cells #[.int .u8 2, .int .u8 3] 5 (0, 0))))
          case atStart => exact ⟨0, rfl, ⟨0, rfl, by omega, rfl, HTA.out⟩, HSL⟩
          case round =>
            clear HTA HSL
            obtain ⟨y, rfl, HA, HSL⟩ := hrel
            obtain ⟨n, rfl, hn2, hnk, hts⟩ := HA.out
            clear HA
            by_cases hn : n < 2
            · obtain _ | g0 := gk
              · exfalso; omega
              obtain ⟨s, hs⟩ : ∃ s, s = n + 2 := ⟨_, rfl⟩
              have hx : wr.cell? ⟨w5.heap.size, n, none⟩ = some (.int .u8 s) := by
                have h := HSL.out
                rw [hs]
                rcases (show n = 0 ∨ n = 1 by omega) with rfl | rfl <;> simp [World.cell?, h]
              have hs2 : 2 ≤ s ∧ s ≤ 3 := by omega
              have HS := Aside0.mk hs
              clear hs
              obtain ⟨c0, c1⟩ := hts.b2.cell (s * 256 + 46) (by omega)
              have hts1 := hts.put8 (s * 256 + 46) (by omega) 4
              obtain ⟨c2, c3⟩ := hts1.b2.cell (s * 256 + 101) (by omega)
              have hts2 := hts1.put8 (s * 256 + 101) (by omega) 6
              obtain ⟨c4, c5⟩ := hts2.b2.cell (s * 256 + 69) (by omega)
              have hts3 := hts2.put8 (s * 256 + 69) (by omega) 6
              have HTS := Aside0.mk hts3
              have HS2 := Aside0.mk (two_keep (two_keep (two_keep HSL.out (Nat.ne_of_lt hlt) (s * 256 + 46) (.int .u8 4)) (Nat.ne_of_lt hlt) (s * 256 + 101) (.int .u8 6)) (Nat.ne_of_lt hlt) (s * 256 + 69) (.int .u8 6))
              clear hts hts1 hts2 hts3 HSL
              go_upto_region 28 with (fail)
              go_region
              go_wp2_with fail
              go_roundg g0
              case measure => omega
              case rel =>
                have hs := HS.out
                subst hs
                exact ⟨n + 1, rfl, ⟨n + 1, rfl, by omega, by omega, HTS.out.step (Below.refl _ _).drew⟩, ⟨HS2.out⟩⟩
            · obtain rfl : n = 2 := by omega
              have HTS := Aside0.mk hts
              clear hts
              go_wp2_with fail
              go_meet
              case rel => exact HTS
        case rest =>
          clear HT3 hlt
          have HT := hcut
          clear hcut
          go_wp2_with fail
          with_reducible refine (digits24 _ _ 4 5 _ (by omega) (by omega) (by omega) (by omega) HT.out.b2).mono ?_
          rintro e w6 ⟨rfl, hb, hn⟩
          have HT2 := Aside0.mk (HT.out.called hb hn)
          clear hb hn HT
          have HT := HT2
          clear HT2
          go_wp2_with fail
          with_reducible refine (digits24 _ _ 5 5 _ (by omega) (by omega) (by omega) (by omega) HT.out.b2).mono ?_
          rintro e w7 ⟨rfl, hb, hn⟩
          have HT2 := Aside0.mk (HT.out.called hb hn)
          clear hb hn HT
          have HT := HT2
          clear HT2
          obtain ⟨c0, c1⟩ := HT.out.b2.cell 1381 (by omega)
          have t0 := HT.out.put8 1381 (by omega) 6
          obtain ⟨c2, c3⟩ := t0.b2.cell 1349 (by omega)
          have t1 := t0.put8 1349 (by omega) 6
          obtain ⟨c4, c5⟩ := t1.b2.cell 1579 (by omega)
          have t2 := t1.put8 1579 (by omega) 7
          obtain ⟨c6, c7⟩ := t2.b2.cell 1581 (by omega)
          have t3 := t2.put8 1581 (by omega) 7
          have HT2 := Aside0.mk t3
          clear t0 t1 t2 t3 HT
          have HT := HT2
          clear HT2
          go_upto_region 34 with (fail)
          clear c0 c1 c2 c3 c4 c5 c6 c7
          go_wp2_with fail
          with_reducible refine (digits24 _ _ 6 8 _ (by omega) (by omega) (by omega) (by omega) HT.out.b2).mono ?_
          rintro e w8 ⟨rfl, hb, hn⟩
          have HT2 := Aside0.mk (HT.out.called hb hn)
          clear hb hn HT
          have HT := HT2
          clear HT2
          go_wp2_with fail
          with_reducible refine (digits24 _ _ 7 8 _ (by omega) (by omega) (by omega) (by omega) HT.out.b2).mono ?_
          rintro e w9 ⟨rfl, hb, hn⟩
          have HT2 := Aside0.mk (HT.out.called hb hn)
          clear hb hn HT
          have HT := HT2
          clear HT2
          go_wp2_with fail
          with_reducible refine (digits24 _ _ 8 8 _ (by omega) (by omega) (by omega) (by omega) HT.out.b2).mono ?_
          rintro e w10 ⟨rfl, hb, hn⟩
          have HT2 := Aside0.mk (HT.out.called hb hn)
          clear hb hn HT
          have HT := HT2
          clear HT2
          have HTT : Aside0 (TS w w10 tblF fun _ => 0) := ⟨HT.out.congr fun j hj => by rw [HF2.out]; exact all_tbl ⟨j, hj⟩⟩
          clear HT HF2
          go_upto_block 10 with (fail)
          go_cut [82] from 83 to 101 (fun v82 wx => Aside0 (TS w wx tblF flatF))
          case first =>
            go_wp2_with fail
            go_loopg [82] 11 (fun kq v82 w' => ∃ (s : Int), v82 = .int .i64 s ∧ Aside0 (0 ≤ s ∧ s ≤ 10 ∧ s + kq = 10 + 1 ∧ TS w w' tblF (flatTo (s * 256))))
            case atStart => exact ⟨0, rfl, ⟨by omega, by omega, by omega, ⟨HTT.out.b0, HTT.out.b1.congr fun j hj => by unfold flatTo; rw [if_neg (by omega)], HTT.out.b2, HTT.out.below⟩⟩⟩
            case round =>
              obtain ⟨s, rfl, HA⟩ := hrel
              obtain ⟨hs0, hs10, hsk, hts⟩ := HA.out
              clear HTT HA
              by_cases hs : s < 10
              · obtain _ | g0 := gk
                · exfalso; omega
                have hw : wrap64 (s + 1) = s + 1 := by unfold wrap64; omega
                have HTS := Aside0.mk hts
                clear hts
                go_wp2_with fail
                go_loopg [85] 257 (fun kq v85 w' => ∃ (c : Int), v85 = .int .i64 c ∧ Aside0 (0 ≤ c ∧ c ≤ 256 ∧ c + kq = 256 + 1 ∧ TS w w' tblF (flatTo (s * 256 + c))))
                case atStart => exact ⟨0, rfl, ⟨by omega, by omega, by omega, by rw [Int.add_zero]; exact HTS.out⟩⟩
                case round =>
                  obtain ⟨c, rfl, HA⟩ := hrel
                  obtain ⟨hc0, hc256, hck, hts⟩ := HA.out
                  clear HA HTS
                  by_cases hc : c < 256
                  · obtain _ | g1 := gk
                    · exfalso; omega
                    obtain ⟨c0, c1⟩ := hts.b2.cell (s.toNat * 256 + c.toNat) (by omega)
                    obtain ⟨c2, c3⟩ := hts.b1.cell (s * 256 + c).toNat (by omega)
                    have hsm := tbl_small ⟨s.toNat * 256 + c.toNat, by omega⟩
                    obtain ⟨V, hV⟩ : ∃ V, V = tblF (s.toNat * 256 + c.toNat) := ⟨_, rfl⟩
                    simp only [← hV] at hsm
                    rw [← hV] at c0
                    have hv1 : IntKind.u16.wrap V = V := by rw [show IntKind.u16.wrap V = V % 65536 from rfl]; omega
                    have hv2 : IntKind.u16.wrap (V * 256) = V * 256 := by rw [show IntKind.u16.wrap (V * 256) = V * 256 % 65536 from rfl]; omega
                    have hm : wrap64 (s * 256) = s * 256 := by unfold wrap64; omega
                    have hm2 : wrap64 (s * 256 + c) = s * 256 + c := by unfold wrap64; omega
                    have hw2 : wrap64 (c + 1) = c + 1 := by unfold wrap64; omega
                    have HTS := Aside0.mk hts
                    have HV := Aside0.mk hV
                    clear hts hV
                    go_wp2_with fail
                    go_roundg g1
                    case measure => omega
                    case rel =>
                      have t := HTS.out.put16 (s * 256 + c).toNat (by omega) (V * 256)
                      refine ⟨c + 1, rfl, ⟨by omega, by omega, by omega, ⟨t.b0, t.b1.congr fun j hj => ?_, t.b2, t.below⟩⟩⟩
                      show (if j = (s * 256 + c).toNat then V * 256 else if (j : Int) < s * 256 + c then tblF j * 256 else 0) = if (j : Int) < s * 256 + (c + 1) then tblF j * 256 else 0
                      by_cases h1 : j = (s * 256 + c).toNat
                      · rw [if_pos h1, if_pos (by omega), HV.out, h1, show s.toNat * 256 + c.toNat = (s * 256 + c).toNat by omega]
                      · rw [if_neg h1]
                        by_cases h2 : (j : Int) < s * 256 + c
                        · rw [if_pos h2, if_pos (by omega)]
                        · rw [if_neg h2, if_neg (by omega)]
                  · have HTS : Aside0 (TS w wr tblF (flatTo ((s + 1) * 256))) := ⟨by
                      obtain rfl : c = 256 := by omega
                      rw [show (s + 1) * 256 = s * 256 + 256 by omega]
                      exact hts⟩
                    clear hts
                    go_wp2_with fail
                    go_roundg g0
                    case measure => omega
                    case rel => exact ⟨s + 1, rfl, ⟨by omega, by omega, by omega, HTS.out⟩⟩
              · have HTS : Aside0 (TS w wr tblF flatF) := ⟨⟨hts.b0, hts.b1.congr fun j hj => by unfold flatTo flatF; rw [if_pos (by omega)], hts.b2, hts.below⟩⟩
                clear hts
                go_wp2_with fail
                go_meet
                case rel => exact HTS
          case rest =>
            clear HTT
            have HT := hcut
            clear hcut
            have HI : Aside0 ((Tryd.prog.info? 41).map (·.size) = some (cellsOf .u16 flatF).size) := ⟨by rw [cellsOf_size]; kernel_rfl⟩
            have H1 : Aside0 ((cellsOf .u16 flatF).all (·.oneCell') = true) := ⟨by
              rw [Array.all_eq_true]
              intro i hi
              have h := cellsOf_get .u16 flatF i (by rw [cellsOf_size] at hi; exact hi)
              rw [Array.getElem?_eq_getElem hi] at h
              rw [Option.some.inj h]
              rfl⟩
            go_wp2_with (first | refine wpList_load_row rfl 41 (.tmp 1) rfl (w.heap.size + 1) rfl 41 (cellsOf .u16 flatF) (0, 0) _ HT.out.b1 Tryd.underlying41 rfl HI.out ?_ | refine wpList_store_row rfl 41 (.tmp 0) (.tmp 102) rfl w.heap.size (cellsOf .u16 flatF) rfl rfl 41 (cellsOf .u16 fun _ => 0) HT.out.b0 HI.out (by rw [cellsOf_size, cellsOf_size]) H1.out ?_)
            refine bodyPost_ret (results_cell_row rfl _ _ w.heap.size 41 (cellsOf .u16 flatF) (0, 0) _ rfl (setRow_heap _ _ _ _ _ _ HT.out.b0) Tryd.underlying41 rfl HI.out) rfl ⟨rfl, below_setRow _ HT.out.below (Nat.le_refl _)⟩
end Go.Proofs.YtoigokgechcaiaaDoor.Dig
