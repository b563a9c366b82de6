/- The walk over compact JSON. -/
import Derived.Test.YtbikiibpjdiaaaaDoorFK
import Derived.Test.YtbikiibpjdiaaaaDoorFN
namespace Go.Proofs.YtbikiibpjdiaaaaDoor.Err
open Go.RowKit Go.Proofs.YtbikiibpjdiaaaaDoorW.PrintWords Go.Proofs.YtbikiibpjdiaaaaDoorW.PrintLast Go.Proofs.YtbikiibpjdiaaaaDoorW.PrintMore Go.Proofs.YtbikiibpjdiaaaaDoor.Dig Go.Proofs.YtbikiibpjdiaaaaDoor.Tab
set_option linter.unusedVariables false
/-- 64 cells, told by a function. -/
def cells64 (F : Nat → Int) : Array Value := ((List.range 64).map fun j => Value.int .u8 (F j)).toArray
theorem cells64_get (F : Nat → Int) (j : Nat) (h : j < 64) : (cells64 F)[j]? = some (.int .u8 (F j)) := by
 unfold cells64
 rw [List.getElem?_toArray, List.getElem?_map, List.getElem?_range h]
 rfl
theorem cells64_size (F : Nat → Int) : (cells64 F).size = 64 := by unfold cells64; rw [List.size_toArray, List.length_map, List.length_range]
def putF (F : Nat → Int) (i : Nat) (v : Int) (j : Nat) : Int := if j = i then v else F j
theorem cells64_put (F : Nat → Int) (i : Nat) (v : Int) (h : i < 64) : (cells64 F).set! i (.int .u8 v) = cells64 (putF F i v) := by
 apply Array.ext_getElem?
 intro j
 by_cases hj : j < 64
 ·rw [cells64_get _ j hj, Array.set!_eq_setIfInBounds, Array.getElem?_setIfInBounds]
  unfold putF
  by_cases hij : j = i
  ·subst hij; simp [cells64_size, h]
  ·rw [if_neg (fun e => hij e.symm), cells64_get F j hj, if_neg hij]
 ·rw [Array.getElem?_eq_none (by rw [Array.set!_eq_setIfInBounds, Array.size_setIfInBounds, cells64_size]; omega), Array.getElem?_eq_none (by rw [cells64_size]; omega)]
set_option maxRecDepth 100000 in
theorem zeroTz (w : World) : Sem.run Tryd.prog (zeroValue 69) w = .ok (.agg (cells64 fun _ => 0)) w := by kernel_rfl
/-- The stack of closing brackets, and what lay before. -/
structure Stk (w w' : World) (F : Nat → Int) : Prop where
 blk : w'.heap[w.heap.size]? = some (.cells (cells64 F) 69 (0, 0))
 below : Below w.heap.size w w'
def shutB : Br → Int
 | .arr => 93
 | _ => 125
/-- The stack holds the brackets that are open. -/
def StkOf (F : Nat → Int) : List Br → Prop
 | [] => True
 | b :: r => F r.length = shutB b ∧ b ≠ .key ∧ StkOf F r
/-- What isCompactJSON answers. -/
def IcAns (q : ByteArray → ByteArray) (l : List Int) (w : World) (e : Ending) (w' : World) : Prop :=
 (∃ r, e = .returned (.bool r) ∧ (r = true → Good q (l ++ [0])) ∧ (r = false → dp q l .val [] 0 ≤ 64 → ¬ Due q l)) ∧ Below w.heap.size w w'
section
variable {q : ByteArray → ByteArray} {w w' w2 : World} {A : Option Addr} {ad : Addr} {c : Nat} {l : List Int} {x y z : Int} {F : Nat → Int} {plain : Bool}
theorem Stk.start (w : World) : Stk w (w.alloc (.cells (cells64 fun _ => 0) 69)) fun _ => 0 := ⟨blk_new w _, below_alloc (Below.refl _ _) _⟩
theorem Stk.lt (h : Stk w w' F) : w.heap.size < w'.heap.size := (Array.getElem?_eq_some_iff.1 h.blk).1
theorem Stk.cell (h : Stk w w' F) (j : Nat) (hj : j < 64) : w'.cell? ⟨w.heap.size, j, none⟩ = some (.int .u8 (F j)) ∧ w'.frozen? ⟨w.heap.size, j, none⟩ = false := by
 have h1 := h.blk
 constructor <;> simp [World.cell?, World.frozen?, h1, cells64_get F j hj]
theorem Stk.put (h : Stk w w' F) (j : Nat) (hj : j < 64) (v : Int) : Stk w (w'.setCell ⟨w.heap.size, j, none⟩ (.int .u8 v)) (putF F j v) := by
 have h1 := heap_setCell_same w' w.heap.size j _ 69 (.int .u8 v) h.blk
 refine ⟨?_, h.below.setCell (Nat.le_refl _) _⟩
 rw [← cells64_put F j v hj]
 simpa using h1
theorem Stk.step (h : Stk w w' F) (hb : Below w'.heap.size w' w2) : Stk w w2 F := ⟨by rw [hb.block _ h.lt]; exact h.blk, below_step h.below hb⟩
theorem Stk.drewN (h : Stk w w' F) (n : Nat) : Stk w (w'.drewN n) F := h.step (pw_below_drewN (Below.refl _ _) n)
theorem stk_put {st : List Br} (i : Nat) (v : Int) (h : StkOf F st) (hi : st.length ≤ i) : StkOf (putF F i v) st := by
 induction st with
 | nil => trivial
 | cons b r ih =>
  have hl : r.length + 1 ≤ i := hi
  refine ⟨?_, h.2.1, ih h.2.2 (by omega)⟩
  unfold putF
  rw [if_neg (by omega)]
  exact h.1
theorem stk_push {st : List Br} (b : Br) (hb : b ≠ .key) (h : StkOf F st) : StkOf (putF F st.length (shutB b)) (b :: st) :=
 ⟨by unfold putF; rw [if_pos rfl], hb, stk_put _ _ h (Nat.le_refl _)⟩
theorem seg_drop0 (h0 : 0 ≤ x) (n : Nat) (hn : x + n ≤ l.length) : (l.drop x.toNat).take n = seg (l ++ [0]) x (x + n) := by
 unfold seg
 rw [List.take_append_of_le_length (by omega), show (x + (n : Int)).toNat = x.toNat + n by omega, List.drop_take, show x.toNat + n - x.toNat = n by omega]
set_option maxRecDepth 100000 in
set_option maxHeartbeats 8000000 in
theorem hasPrefix (hC : Kd.C (Kd.int .u8) w A l.length l) (hcap : l.length ≤ c) (hb : ∀ y ∈ l, 0 ≤ y ∧ y < 256) (hl : l.length ≤ 70000000) (s : ByteArray) (hs8 : s.size ≤ 8) :
  Calls Tryd.prog 53 #[.slice A l.length c, .string s] w fun e w' => (∃ r, e = .returned (.bool r) ∧ (r = true ↔ s.size ≤ l.length ∧ l.take s.size = sb s)) ∧ Drawn0 w w' := by
 by_cases hn : s.size ≤ l.length
 ·have d1 : decide ((s.size : Int) ≤ (l.length : Int)) = true := decide_eq_true (by omega)
  have g1 : ((s.size : Int) ≤ (c : Int)) = True := eq_true (by omega)
  have hR := ReadsOf.take_ (Kd.reads_of_C (enc := Value.int .u8) (d := (0 : Int)) (h1 := fun _ => rfl) hC) s.size (by omega)
  have hcv := Kd.C_string (P := Tryd.prog) (A := A) (c := c) Tryd.underlying22 Tryd.underlying5 Tryd.underlying9 (Kd.C_of_reads (h1 := fun _ => rfl) hR)
  have hst := str_eq (l.take s.size) s (fun y hy => hb y (List.mem_of_mem_take hy))
  have hlen : (l.take s.size).length = s.size := by rw [List.length_take]; omega
  by_cases hq : l.take s.size = sb s
  ·rw [decide_eq_true hq] at hst
   have HRES := Aside0.mk hq
   clear hq hR hb hC
   generalize l.take s.size = S at hst hcv hlen HRES ⊢
   go_enter Tryd.func53, Tryd.ntmps53
   go_wp2_with fail
   go_ret
   exact ⟨⟨true, rfl, ⟨fun _ => ⟨hn, HRES.out⟩, fun _ => rfl⟩⟩, by first | exact ⟨_, rfl⟩ | (repeat (first | exact Drawn0.refl _ | apply Drawn0.step))⟩
  ·rw [decide_eq_false hq] at hst
   have HNQ := Aside0.mk hq
   clear hq hR hb hC
   generalize l.take s.size = S at hst hcv hlen HNQ ⊢
   go_enter Tryd.func53, Tryd.ntmps53
   go_wp2_with fail
   go_ret
   exact ⟨⟨false, rfl, ⟨(fun h => by cases h), fun h => absurd h.2 HNQ.out⟩⟩, by first | exact ⟨_, rfl⟩ | (repeat (first | exact Drawn0.refl _ | apply Drawn0.step))⟩
 ·have d1 : decide ((s.size : Int) ≤ (l.length : Int)) = false := decide_eq_false (by omega)
  clear hb hC
  go_enter Tryd.func53, Tryd.ntmps53
  go_wp2_with fail
  go_ret
  exact ⟨⟨false, rfl, ⟨(fun h => by cases h), fun h => absurd h.1 hn⟩⟩, by first | exact ⟨_, rfl⟩ | (repeat (first | exact Drawn0.refl _ | apply Drawn0.step))⟩
/-- The words' look. -/
theorem litAt (hC : Kd.C (Kd.int .u8) w (some ad) l.length l) (hcap : l.length ≤ c) (hH : High l) (h0 : 0 ≤ x) (hx : x < l.length) (s : ByteArray) (hs8 : s.size ≤ 8) (hw : Lit_ (sb s)) :
  Calls Tryd.prog 53 #[.slice (some (ad.add x.toNat)) (l.length - x.toNat) (c - x.toNat), .string s] w fun e w' => (∃ r, e = .returned (.bool r) ∧ (r = true → flit (l ++ [0]) x (sb s) = some (x + s.size, sb s)) ∧ (r = false → flit (l ++ [0]) x (sb s) = none)) ∧ Drawn0 w w' := by
 have hl : (l.drop x.toNat).length = l.length - x.toNat := List.length_drop
 have hR := ReadsOf.drop_ (c := c) (Kd.reads_of_C (enc := Value.int .u8) (d := (0 : Int)) (h1 := fun _ => rfl) hC) x.toNat (by omega) hcap
 have hcx : ¬ c = x.toNat := by omega
 ·rw [if_neg hcx] at hR
  have hc := hasPrefix (c := c - x.toNat) (by rw [hl]; exact Kd.C_of_reads (h1 := fun _ => rfl) hR) (by rw [hl]; omega) (fun y hy => hH.low y (List.mem_of_mem_drop hy)) (by rw [hl]; have := hH.len; omega) s hs8
  rw [hl] at hc
  refine hc.mono ?_
  rintro e w1 ⟨⟨r, rfl, hr⟩, hd⟩
  refine ⟨⟨r, rfl, fun h => ?_, fun h => ?_⟩, hd⟩
  ·obtain ⟨h1, h2⟩ := hr.1 h
   unfold flit
   rw [sb_len s, ← seg_drop0 h0 s.size (by omega), h2, if_pos rfl]
  ·cases hf : flit (l ++ [0]) x (sb s) with
   | none => rfl
   | some p =>
    have hg := flit_gt (e := p.1) (T := p.2) hH.txt h0 (by rw [len1]; omega) (by have := hw.len; omega) hw.pos hf
    unfold flit at hf
    split at hf
    ·rename_i hs
     simp only [Option.some.injEq] at hf
     rw [← hf, len1, sb_len] at hg
     simp only at hg
     rw [sb_len, ← seg_drop0 h0 s.size (by omega)] at hs
     rw [hr.2 ⟨by omega, hs⟩] at h
     cases h
    ·cases hf
set_option maxRecDepth 100000 in
set_option maxHeartbeats 64000000 in
theorem isCompact (hC : Kd.C (Kd.int .u8) w A l.length l) (hcap : l.length ≤ c) (hG : Glob w) (hH : High l) (hp : plain = true → ∀ y ∈ l, y ≠ 92) :
  Calls Tryd.prog 42 #[.slice A l.length c, .bool plain] w (IcAns q l w) := by
 have hlen : ((l ++ [(0 : Int)]).length : Int) = l.length + 1 := by rw [List.length_append]; rfl
 have hsm := hH.len
 have HT := Aside0.mk hH.txt
 have HC := Aside0.mk hC
 have HLEN := Aside0.mk hlen
 have HQ : Aside0 (∀ (W : World) (x : Int), Below w.heap.size w W → 0 ≤ x → x < l.length → rd l x = 34 → (plain = true → Calls Tryd.prog 51 #[.slice A l.length c, .int .i64 (x + 1)] W fun e w' => (∃ r, e = .returned (.int .i64 r) ∧ QE l x r) ∧ Drawn0 W w') ∧ Calls Tryd.prog 52 #[.slice A l.length c, .int .i64 (x + 1)] W fun e w' => (∃ r, e = .returned (.int .i64 r) ∧ QE l x r) ∧ Drawn0 W w') :=
  ⟨fun W x hb h0 h1 hq => ⟨fun h => quoteEnd (Kd.C_below hC hb) hcap (hG.below hb) hH (hp h) h0 h1 hq, escapedQuoteEnd (Kd.C_below hC hb) hcap (hG.below hb) hH h0 h1 hq⟩⟩
 have HLIT : Aside0 (∀ (W : World) (ad : Addr), A = some ad → ∀ x : Int, Below w.heap.size w W → 0 ≤ x → x < l.length → ∀ s : ByteArray, s.size ≤ 8 → Lit_ (sb s) → Calls Tryd.prog 53 #[.slice (some (ad.add x.toNat)) (l.length - x.toNat) (c - x.toNat), .string s] W fun e w' => (∃ r, e = .returned (.bool r) ∧ (r = true → flit (l ++ [0]) x (sb s) = some (x + s.size, sb s)) ∧ (r = false → flit (l ++ [0]) x (sb s) = none)) ∧ Drawn0 W w') :=
  ⟨fun W ad hA x hb h0 h1 s h8 hw => litAt (by rw [← hA]; exact Kd.C_below hC hb) hcap hH h0 h1 s h8 hw⟩
 have HNUM : Aside0 (∀ (W : World) (x : Int), Below w.heap.size w W → 0 ≤ x → x < l.length → Calls Tryd.prog 54 #[.slice A l.length c, .int .i64 x] W fun e w' => (∃ r, e = .returned (.int .i64 r) ∧ NE l x r) ∧ Drawn0 W w') :=
  ⟨fun W x hb h0 h1 => numberEnd (Kd.C_below hC hb) hcap hH h0 h1⟩
 have z69 := zeroTz
 clear hC hG hH hp hlen
 go_enter Tryd.func42, Tryd.ntmps42
 go_upto_region 4 with (simp only [z69])
 clear z69
 go_cut [8] from 13 to 227 (fun v8 wx => v8 = .int .i64 0 ∧ Aside0 (Stk w wx fun _ => 0))
 case first =>
  as_aux_lemma =>
   go_wp2_with fail
   go_meet
   case rel => exact ⟨rfl, ⟨Stk.start w⟩⟩
 case rest =>
  as_aux_lemma =>
   obtain ⟨rfl, HS0⟩ := hcut
   go_wp2_with fail
   go_loopg [6, 8] (l.length + 1) (fun kq v6 v8 wx => ∃ (st : List Br) (F : Nat → Int) (i d : Int), v6 = .int .i64 d ∧ v8 = .int .i64 i ∧ Aside0 (0 ≤ i ∧ i ≤ l.length ∧ d = st.length ∧ st.length ≤ 64 ∧ (l.length : Int) + 1 ≤ i + kq) ∧ Aside0 (VAt q l st i) ∧ Aside0 (Stk w wx F) ∧ Aside0 (StkOf F st))
   case atStart => exact ⟨[], fun _ => 0, 0, 0, rfl, rfl, ⟨by simp⟩, ⟨vAt0⟩, HS0, ⟨trivial⟩⟩
   case round =>
    as_aux_lemma =>
     clear HS0
     obtain ⟨st, F, i0, d, rfl, rfl, HI, HV, HS, HSO⟩ := hrel
     obtain ⟨i1, i2, i3, i4, i5⟩ := HI.out
     have hd0 : 0 ≤ d := by omega
     have hd64 : d ≤ 64 := by omega
     clear i3 i4
     obtain _ | g0 := gk
     ·exfalso; omega
     have ei1 : wrap64 (i0 + 1) = i0 + 1 := by unfold wrap64; omega
     by_cases hin : i0 < l.length
     ·have dn : decide ((l.length : Int) ≤ i0) = false := decide_eq_false (by omega)
      obtain ⟨ad2, hA, hxi⟩ := Kd.at_int (Kd.C_below HC.out HS.out.below) i0 (by omega) hin
      cases hA
      go_upto_block 2 with (fail)
      clear hxi
      go_cut [6, 8, 9] from 13 to 227 (fun v6 v8 v9 wx => ∃ (st : List Br) (F : Nat → Int) (i d : Int), v6 = .int .i64 d ∧ v8 = .int .i64 i ∧ Aside0 (i0 < i ∧ i ≤ l.length ∧ d = st.length ∧ st.length ≤ 64) ∧ Aside0 (CAt q l st i) ∧ Aside0 (Stk w wx F) ∧ Aside0 (StkOf F st))
      case first =>
       as_aux_lemma =>
        by_cases c34 : rd l i0 = 34
        ·have H34 := Aside0.mk c34
         rw [c34]
         clear c34
         go_upto_if 23 with (fail)
         go_cut [8] from 13 to 227 (fun v8 wx => ∃ r : Int, v8 = .int .i64 r ∧ Aside0 (QE l i0 r) ∧ Aside0 (Stk w wx F))
         case first =>
          as_aux_lemma =>
           obtain _ | _ := plain
           ·have HCALL := Aside0.mk (HQ.out _ i0 HS.out.below (by omega) hin H34.out).2
            go_wp2_with fail
            with_reducible refine HCALL.out.mono ?_
            rintro e w2 ⟨⟨r, rfl, hr⟩, hd2⟩
            have HR := Aside0.mk hr
            have HS2 := Aside0.mk (HS.out.step hd2.below)
            clear hr hd2
            go_wp2_with fail
            go_meet
            case rel => exact ⟨r, rfl, HR, HS2⟩
           ·have HCALL := Aside0.mk ((HQ.out _ i0 HS.out.below (by omega) hin H34.out).1 rfl)
            go_wp2_with fail
            with_reducible refine HCALL.out.mono ?_
            rintro e w2 ⟨⟨r, rfl, hr⟩, hd2⟩
            have HR := Aside0.mk hr
            have HS2 := Aside0.mk (HS.out.step hd2.below)
            clear hr hd2
            go_wp2_with fail
            go_meet
            case rel => exact ⟨r, rfl, HR, HS2⟩
         case rest =>
          as_aux_lemma =>
           clear HS
           obtain ⟨r, rfl, HR, HS⟩ := hcut
           by_cases hr0 : r < 0
           ·have dr : decide (r < 0) = true := decide_eq_true hr0
            have HNO : Aside0 (dp q l .val [] 0 ≤ 64 → ¬ Due q l) := ⟨fun hdp hd => by
             rcases HR.out with ⟨_, hn⟩ | ⟨T, hT⟩
             ·exact HV.out.v.neg_text HT.out hd (by omega) hin H34.out hn
             ·have := fstr_ok (q := q) HT.out (by omega) (by have := HLEN.out; omega) hT
              omega⟩
            clear hr0
            go_wp2_with fail
            go_ret
            exact ⟨⟨false, rfl, (fun h => by cases h), fun _ => HNO.out⟩, HS.out.below⟩
           ·have dr : decide (r < 0) = false := decide_eq_false hr0
            obtain ⟨T, hT⟩ : ∃ T, fstr (l ++ [0]) false i0 = some (r, T) := by
             rcases HR.out with h | h
             ·obtain ⟨h, _⟩ := h
              omega
             ·exact h
            have hrb := fstr_ok (q := q) HT.out (by omega) (by have := HLEN.out; omega) hT
            have HFS := Aside0.mk hT
            have hr1 : i0 + 1 < r ∧ r ≤ l.length := by have := HLEN.out; omega
            clear hT hrb hr0
            have HAT := Aside0.mk (HV.out.text HT.out (by omega) (by have := HLEN.out; omega) (by rw [rdL (by omega) (by omega)]; exact H34.out) HFS.out)
            go_wp2_with fail
            go_meet
            case rel => exact ⟨st, F, r, d, rfl, rfl, ⟨by have := HI.out; omega⟩, HAT, HS, HSO⟩
        by_cases c123 : rd l i0 = 123
        ·have HCH := Aside0.mk c123
         rw [c123]
         clear c123
         by_cases h64 : d = 64
         ·have f64 : (d == 64) = true := beq_iff_eq.mpr h64
          have HNO : Aside0 (dp q l .val [] 0 ≤ 64 → ¬ Due q l) := ⟨fun hdp hd => HV.out.deep (by omega) hin (.inl HCH.out) (by have := HI.out; omega) hdp⟩
          clear h64
          go_wp2_with fail
          go_ret
          exact ⟨⟨false, rfl, (fun h => by cases h), fun _ => HNO.out⟩, HS.out.below⟩
         ·have hd64 : d < 64 := by omega
          have f64 : (d == 64) = false := beq_eq_false_iff_ne.mpr (by omega)
          obtain ⟨hs1, hs2⟩ := HS.out.cell d.toNat (by omega)
          go_upto_region 18 with (fail)
          go_cut [6] from 39 to 40 (fun v6 wx => v6 = .int .i64 d ∧ Aside0 (Stk w wx (putF F d.toNat 125)))
          case first =>
           as_aux_lemma =>
            have HS2 := Aside0.mk (HS.out.put d.toNat (by omega) 125)
            go_wp2_with fail
            go_meet
            case rel => exact ⟨rfl, HS2⟩
          case rest =>
           as_aux_lemma =>
            clear HS hs1 hs2
            obtain ⟨rfl, HS⟩ := hcut
            have HSP : Aside0 (StkOf (putF F d.toNat 125) st) := ⟨stk_put _ _ HSO.out (by have := HI.out; omega)⟩
            have HSQ : Aside0 (StkOf (putF F d.toNat 125) (.obj :: st)) := ⟨by
             have h := stk_push .obj (fun h => by cases h) HSO.out
             rw [show st.length = d.toNat by have := HI.out; omega] at h
             exact h⟩
            have ed1 : wrap64 (d + 1) = d + 1 := by unfold wrap64; omega
            have ed2 : wrap64 (d + 1 - 1) = d := by unfold wrap64; omega
            have ei2 : wrap64 (i0 + 1 + 1) = i0 + 1 + 1 := by unfold wrap64; omega
            by_cases hn1 : i0 + 1 < (l.length : Int)
            ·have d1 : decide (i0 + 1 < (l.length : Int)) = true := decide_eq_true hn1
             have dn : decide ((l.length : Int) ≤ i0 + 1) = false := decide_eq_false (by omega)
             obtain ⟨ad2, hA, hxi⟩ := Kd.at_int (Kd.C_below HC.out HS.out.below) (i0 + 1) (by omega) hn1
             cases hA
             by_cases h125 : rd l (i0 + 1) = 125
             ·have HAT := Aside0.mk (HV.out.obj0 HT.out (by omega) (by have := HLEN.out; omega) (by rw [rdL (by omega) (by omega)]; exact HCH.out) (by rw [rdL (by omega) (by omega)]; exact h125))
              rw [h125] at hxi
              clear h125
              go_wp2_with fail
              go_meet
              case rel => exact ⟨st, putF F d.toNat 125, i0 + 2, d, by first | rfl | rw [ed2] | rw [ed1, ed2], by first | rfl | rw [show i0 + 1 + 1 = i0 + 2 by omega] | rw [ei2, show i0 + 1 + 1 = i0 + 2 by omega] | rw [ei1, ei2, show i0 + 1 + 1 = i0 + 2 by omega], ⟨by have := HI.out; omega⟩, HAT, HS, HSP⟩
             ·have f125 : (rd l (i0 + 1) == 125) = false := beq_eq_false_iff_ne.mpr h125
              have HN := Aside0.mk (HV.out.name HT.out (by omega) hin HCH.out (by rw [rdL (by omega) (by omega)]; exact h125))
              by_cases h34 : rd l (i0 + 1) = 34
              ·have H34 := Aside0.mk h34
               rw [h34] at hxi
               clear h34 h125 f125
               go_upto_if 69 with (fail)
               go_cut [8] from 13 to 227 (fun v8 wx => ∃ r : Int, v8 = .int .i64 r ∧ Aside0 (QE l (i0 + 1) r) ∧ Aside0 (Stk w wx (putF F d.toNat 125)))
               case first =>
                as_aux_lemma =>
                 obtain _ | _ := plain
                 ·have HCALL := Aside0.mk (HQ.out _ (i0 + 1) HS.out.below (by omega) hn1 H34.out).2
                  go_wp2_with fail
                  with_reducible refine HCALL.out.mono ?_
                  rintro e w2 ⟨⟨r, rfl, hr⟩, hd2⟩
                  have HR := Aside0.mk hr
                  have HS2 := Aside0.mk (HS.out.step hd2.below)
                  clear hr hd2
                  go_wp2_with fail
                  go_meet
                  case rel => exact ⟨r, rfl, HR, HS2⟩
                 ·have HCALL := Aside0.mk ((HQ.out _ (i0 + 1) HS.out.below (by omega) hn1 H34.out).1 rfl)
                  go_wp2_with fail
                  with_reducible refine HCALL.out.mono ?_
                  rintro e w2 ⟨⟨r, rfl, hr⟩, hd2⟩
                  have HR := Aside0.mk hr
                  have HS2 := Aside0.mk (HS.out.step hd2.below)
                  clear hr hd2
                  go_wp2_with fail
                  go_meet
                  case rel => exact ⟨r, rfl, HR, HS2⟩
               case rest =>
                as_aux_lemma =>
                 clear HS hxi
                 obtain ⟨r, rfl, HR, HS⟩ := hcut
                 by_cases hr0 : r < 0
                 ·have dr : decide (r < 0) = true := decide_eq_true hr0
                  have HNO : Aside0 (dp q l .val [] 0 ≤ 64 → ¬ Due q l) := ⟨fun hdp hd => by
                   rcases HR.out with ⟨_, hn⟩ | ⟨T, hT⟩
                   ·exact HN.out.n.neg_text HT.out hd (by omega) hn1 H34.out hn
                   ·have := fstr_ok (q := q) HT.out (by omega) (by have := HLEN.out; omega) hT
                    omega⟩
                  clear hr0
                  go_wp2_with fail
                  go_ret
                  exact ⟨⟨false, rfl, (fun h => by cases h), fun _ => HNO.out⟩, HS.out.below⟩
                 ·have dr : decide (r < 0) = false := decide_eq_false hr0
                  obtain ⟨T, hT⟩ : ∃ T, fstr (l ++ [0]) false (i0 + 1) = some (r, T) := by
                   rcases HR.out with h | h
                   ·obtain ⟨h, _⟩ := h
                    omega
                   ·exact h
                  have hrb := fstr_ok (q := q) HT.out (by omega) (by have := HLEN.out; omega) hT
                  have HFS := Aside0.mk hT
                  have hr1 : (i0 + 1) + 1 < r ∧ r ≤ l.length := by have := HLEN.out; omega
                  clear hT hrb hr0
                  by_cases hrn : r < l.length
                  ·have dn : decide ((l.length : Int) ≤ r) = false := decide_eq_false (by omega)
                   obtain ⟨ad2, hA, hxi⟩ := Kd.at_int (Kd.C_below HC.out HS.out.below) r (by omega) hrn
                   cases hA
                   by_cases h58 : rd l r = 58
                   ·have H58 := Aside0.mk h58
                    rw [h58] at hxi
                    clear h58
                    have HAT := Aside0.mk (HN.out.val HT.out (by omega) hn1 H34.out HFS.out hrn H58.out)
                    have er1 : wrap64 (r + 1) = r + 1 := by unfold wrap64; omega
                    go_wp2_with fail
                    go_roundg g0
                    case measure => omega
                    case rel => exact ⟨.obj :: st, putF F d.toNat 125, r + 1, d + 1, by first | rfl | rw [ed1], by first | rfl | rw [er1], ⟨by have := HI.out; simp only [List.length_cons]; omega⟩, HAT, HS, HSQ⟩
                   ·have f58 : (rd l r != 58) = true := bne_iff_ne.mpr h58
                    have HNO : Aside0 (dp q l .val [] 0 ≤ 64 → ¬ Due q l) := ⟨fun hdp hd => HN.out.n.neg_colon HT.out hd (by omega) hn1 H34.out HFS.out (fun _ => h58)⟩
                    clear h58
                    go_wp2_with fail
                    go_ret
                    exact ⟨⟨false, rfl, (fun h => by cases h), fun _ => HNO.out⟩, HS.out.below⟩
                  ·have dn : decide ((l.length : Int) ≤ r) = true := decide_eq_true (by omega)
                   have HNO : Aside0 (dp q l .val [] 0 ≤ 64 → ¬ Due q l) := ⟨fun hdp hd => HN.out.n.neg_colon HT.out hd (by omega) hn1 H34.out HFS.out (fun h => absurd h hrn)⟩
                   clear hrn
                   go_wp2_with fail
                   go_ret
                   exact ⟨⟨false, rfl, (fun h => by cases h), fun _ => HNO.out⟩, HS.out.below⟩
              ·have f34 : (rd l (i0 + 1) != 34) = true := bne_iff_ne.mpr h34
               have HNO : Aside0 (dp q l .val [] 0 ≤ 64 → ¬ Due q l) := ⟨fun hdp hd => HN.out.n.neg HT.out hd (by omega) (by omega) (fun _ => h34)⟩
               clear h34 h125
               go_wp2_with fail
               go_ret
               exact ⟨⟨false, rfl, (fun h => by cases h), fun _ => HNO.out⟩, HS.out.below⟩
            ·have d1 : decide (i0 + 1 < (l.length : Int)) = false := decide_eq_false hn1
             have dn : decide ((l.length : Int) ≤ i0 + 1) = true := decide_eq_true (by omega)
             have HN := Aside0.mk (HV.out.name HT.out (by omega) hin HCH.out (by rw [show i0 + 1 = ((l ++ [(0 : Int)]).length : Int) - 1 by have := HLEN.out; omega, HT.out.last]; decide))
             have HNO : Aside0 (dp q l .val [] 0 ≤ 64 → ¬ Due q l) := ⟨fun hdp hd => HN.out.n.neg HT.out hd (by omega) (by omega) (fun h => absurd h hn1)⟩
             clear hn1
             go_wp2_with fail
             go_ret
             exact ⟨⟨false, rfl, (fun h => by cases h), fun _ => HNO.out⟩, HS.out.below⟩
        by_cases c91 : rd l i0 = 91
        ·have HCH := Aside0.mk c91
         rw [c91]
         clear c91
         by_cases h64 : d = 64
         ·have f64 : (d == 64) = true := beq_iff_eq.mpr h64
          have HNO : Aside0 (dp q l .val [] 0 ≤ 64 → ¬ Due q l) := ⟨fun hdp hd => HV.out.deep (by omega) hin (.inr HCH.out) (by have := HI.out; omega) hdp⟩
          clear h64
          go_wp2_with fail
          go_ret
          exact ⟨⟨false, rfl, (fun h => by cases h), fun _ => HNO.out⟩, HS.out.below⟩
         ·have hd64 : d < 64 := by omega
          have f64 : (d == 64) = false := beq_eq_false_iff_ne.mpr (by omega)
          obtain ⟨hs1, hs2⟩ := HS.out.cell d.toNat (by omega)
          go_upto_region 37 with (fail)
          go_cut [6] from 97 to 98 (fun v6 wx => v6 = .int .i64 d ∧ Aside0 (Stk w wx (putF F d.toNat 93)))
          case first =>
           as_aux_lemma =>
            have HS2 := Aside0.mk (HS.out.put d.toNat (by omega) 93)
            go_wp2_with fail
            go_meet
            case rel => exact ⟨rfl, HS2⟩
          case rest =>
           as_aux_lemma =>
            clear HS hs1 hs2
            obtain ⟨rfl, HS⟩ := hcut
            have HSP : Aside0 (StkOf (putF F d.toNat 93) st) := ⟨stk_put _ _ HSO.out (by have := HI.out; omega)⟩
            have HSQ : Aside0 (StkOf (putF F d.toNat 93) (.arr :: st)) := ⟨by
             have h := stk_push .arr (fun h => by cases h) HSO.out
             rw [show st.length = d.toNat by have := HI.out; omega] at h
             exact h⟩
            have ed1 : wrap64 (d + 1) = d + 1 := by unfold wrap64; omega
            have ed2 : wrap64 (d + 1 - 1) = d := by unfold wrap64; omega
            have ei2 : wrap64 (i0 + 1 + 1) = i0 + 1 + 1 := by unfold wrap64; omega
            by_cases hn1 : i0 + 1 < (l.length : Int)
            ·have d1 : decide (i0 + 1 < (l.length : Int)) = true := decide_eq_true hn1
             obtain ⟨ad2, hA, hxi⟩ := Kd.at_int (Kd.C_below HC.out HS.out.below) (i0 + 1) (by omega) hn1
             cases hA
             by_cases h93 : rd l (i0 + 1) = 93
             ·have HAT := Aside0.mk (HV.out.arr0 HT.out (by omega) (by have := HLEN.out; omega) (by rw [rdL (by omega) (by omega)]; exact HCH.out) (by rw [rdL (by omega) (by omega)]; exact h93))
              rw [h93] at hxi
              clear h93
              go_wp2_with fail
              go_meet
              case rel => exact ⟨st, putF F d.toNat 93, i0 + 2, d, by first | rfl | rw [ed2] | rw [ed1, ed2], by first | rfl | rw [show i0 + 1 + 1 = i0 + 2 by omega] | rw [ei2, show i0 + 1 + 1 = i0 + 2 by omega] | rw [ei1, ei2, show i0 + 1 + 1 = i0 + 2 by omega], ⟨by have := HI.out; omega⟩, HAT, HS, HSP⟩
             ·have f93 : (rd l (i0 + 1) == 93) = false := beq_eq_false_iff_ne.mpr h93
              have HAT := Aside0.mk (HV.out.arr HT.out (by omega) (by have := HLEN.out; omega) (by rw [rdL (by omega) (by omega)]; exact HCH.out) (by rw [rdL (by omega) (by omega)]; exact h93))
              clear h93
              go_wp2_with fail
              go_roundg g0
              case measure => omega
              case rel => exact ⟨.arr :: st, putF F d.toNat 93, i0 + 1, d + 1, by first | rfl | rw [ed1], by first | rfl | rw [ei1], ⟨by have := HI.out; simp only [List.length_cons]; omega⟩, HAT, HS, HSQ⟩
            ·have d1 : decide (i0 + 1 < (l.length : Int)) = false := decide_eq_false hn1
             have HAT := Aside0.mk (HV.out.arr HT.out (by omega) (by have := HLEN.out; omega) (by rw [rdL (by omega) (by omega)]; exact HCH.out) (by rw [show i0 + 1 = ((l ++ [(0 : Int)]).length : Int) - 1 by have := HLEN.out; omega, HT.out.last]; decide))
             clear hn1
             go_wp2_with fail
             go_roundg g0
             case measure => omega
             case rel => exact ⟨.arr :: st, putF F d.toNat 93, i0 + 1, d + 1, by first | rfl | rw [ed1], by first | rfl | rw [ei1], ⟨by have := HI.out; simp only [List.length_cons]; omega⟩, HAT, HS, HSQ⟩
        by_cases c116 : rd l i0 = 116
        ·have HCH := Aside0.mk c116
         have HCALL := Aside0.mk (HLIT.out _ _ rfl i0 HS.out.below (by omega) (by omega) ⟨#[116, 114, 117, 101]⟩ (by decide) lit_true)
         rw [c116]
         clear c116
         have g1 : (i0 ≤ (l.length : Int)) = True := eq_true (by omega)
         have ein : wrap64 (i0 + 4) = i0 + 4 := by unfold wrap64; omega
         go_wp2_with fail
         with_reducible refine HCALL.out.mono ?_
         rintro e w2 ⟨⟨r, rfl, hr, hrn⟩, hd2⟩
         have HS2 := Aside0.mk (HS.out.step hd2.below)
         clear HS hd2
         obtain _ | _ := r
         ·have HNO : Aside0 (dp q l .val [] 0 ≤ 64 → ¬ Due q l) := ⟨fun hdp hd => HV.out.v.neg_lit HT.out hd (by omega) hin lit_true HCH.out (by rw [HCH.out]; decide) (fun st => (val_t HT.out (by omega) (by have := HLEN.out; omega) (by rw [rdL (by omega) (by omega)]; exact HCH.out)).1) (hrn rfl)⟩
          clear hr hrn
          go_wp2_with fail
          go_ret
          exact ⟨⟨false, rfl, (fun h => by cases h), fun _ => HNO.out⟩, HS2.out.below⟩
         ·have hf : flit (l ++ [0]) i0 lTrue = some (i0 + 4, lTrue) := hr rfl
          have hg := flit_gt HT.out (by omega) (by have := HLEN.out; omega) (by decide) lit_true.pos hf
          have HAT := Aside0.mk (HV.out.lit HT.out (by omega) (by have := HLEN.out; omega) lit_true (by decide) (by rw [rdL (by omega) (by omega), HCH.out]; decide) (by rw [rdL (by omega) (by omega), HCH.out]; decide) (fun st => by rw [rdL (by omega) (by omega), HCH.out]; rfl) (fun st => (val_t HT.out (by omega) (by have := HLEN.out; omega) (by rw [rdL (by omega) (by omega)]; exact HCH.out)).1) hf)
          have hg2 : i0 + 4 ≤ l.length := by have := HLEN.out; omega
          clear hf hg hr hrn
          go_wp2_with fail
          go_meet
          case rel => exact ⟨st, F, i0 + 4, d, rfl, by first | rfl | rw [ein], ⟨by have := HI.out; omega⟩, HAT, HS2, HSO⟩
        by_cases c102 : rd l i0 = 102
        ·have HCH := Aside0.mk c102
         have HCALL := Aside0.mk (HLIT.out _ _ rfl i0 HS.out.below (by omega) (by omega) ⟨#[102, 97, 108, 115, 101]⟩ (by decide) lit_false)
         rw [c102]
         clear c102
         have g1 : (i0 ≤ (l.length : Int)) = True := eq_true (by omega)
         have ein : wrap64 (i0 + 5) = i0 + 5 := by unfold wrap64; omega
         go_wp2_with fail
         with_reducible refine HCALL.out.mono ?_
         rintro e w2 ⟨⟨r, rfl, hr, hrn⟩, hd2⟩
         have HS2 := Aside0.mk (HS.out.step hd2.below)
         clear HS hd2
         obtain _ | _ := r
         ·have HNO : Aside0 (dp q l .val [] 0 ≤ 64 → ¬ Due q l) := ⟨fun hdp hd => HV.out.v.neg_lit HT.out hd (by omega) hin lit_false HCH.out (by rw [HCH.out]; decide) (fun st => (val_f HT.out (by omega) (by have := HLEN.out; omega) (by rw [rdL (by omega) (by omega)]; exact HCH.out)).1) (hrn rfl)⟩
          clear hr hrn
          go_wp2_with fail
          go_ret
          exact ⟨⟨false, rfl, (fun h => by cases h), fun _ => HNO.out⟩, HS2.out.below⟩
         ·have hf : flit (l ++ [0]) i0 lFalse = some (i0 + 5, lFalse) := hr rfl
          have hg := flit_gt HT.out (by omega) (by have := HLEN.out; omega) (by decide) lit_false.pos hf
          have HAT := Aside0.mk (HV.out.lit HT.out (by omega) (by have := HLEN.out; omega) lit_false (by decide) (by rw [rdL (by omega) (by omega), HCH.out]; decide) (by rw [rdL (by omega) (by omega), HCH.out]; decide) (fun st => by rw [rdL (by omega) (by omega), HCH.out]; rfl) (fun st => (val_f HT.out (by omega) (by have := HLEN.out; omega) (by rw [rdL (by omega) (by omega)]; exact HCH.out)).1) hf)
          have hg2 : i0 + 5 ≤ l.length := by have := HLEN.out; omega
          clear hf hg hr hrn
          go_wp2_with fail
          go_meet
          case rel => exact ⟨st, F, i0 + 5, d, rfl, by first | rfl | rw [ein], ⟨by have := HI.out; omega⟩, HAT, HS2, HSO⟩
        by_cases c110 : rd l i0 = 110
        ·have HCH := Aside0.mk c110
         have HCALL := Aside0.mk (HLIT.out _ _ rfl i0 HS.out.below (by omega) (by omega) ⟨#[110, 117, 108, 108]⟩ (by decide) lit_null)
         rw [c110]
         clear c110
         have g1 : (i0 ≤ (l.length : Int)) = True := eq_true (by omega)
         have ein : wrap64 (i0 + 4) = i0 + 4 := by unfold wrap64; omega
         go_wp2_with fail
         with_reducible refine HCALL.out.mono ?_
         rintro e w2 ⟨⟨r, rfl, hr, hrn⟩, hd2⟩
         have HS2 := Aside0.mk (HS.out.step hd2.below)
         clear HS hd2
         obtain _ | _ := r
         ·have HNO : Aside0 (dp q l .val [] 0 ≤ 64 → ¬ Due q l) := ⟨fun hdp hd => HV.out.v.neg_lit HT.out hd (by omega) hin lit_null HCH.out (by rw [HCH.out]; decide) (fun st => (val_n HT.out (by omega) (by have := HLEN.out; omega) (by rw [rdL (by omega) (by omega)]; exact HCH.out)).1) (hrn rfl)⟩
          clear hr hrn
          go_wp2_with fail
          go_ret
          exact ⟨⟨false, rfl, (fun h => by cases h), fun _ => HNO.out⟩, HS2.out.below⟩
         ·have hf : flit (l ++ [0]) i0 lNull = some (i0 + 4, lNull) := hr rfl
          have hg := flit_gt HT.out (by omega) (by have := HLEN.out; omega) (by decide) lit_null.pos hf
          have HAT := Aside0.mk (HV.out.lit HT.out (by omega) (by have := HLEN.out; omega) lit_null (by decide) (by rw [rdL (by omega) (by omega), HCH.out]; decide) (by rw [rdL (by omega) (by omega), HCH.out]; decide) (fun st => by rw [rdL (by omega) (by omega), HCH.out]; rfl) (fun st => (val_n HT.out (by omega) (by have := HLEN.out; omega) (by rw [rdL (by omega) (by omega)]; exact HCH.out)).1) hf)
          have hg2 : i0 + 4 ≤ l.length := by have := HLEN.out; omega
          clear hf hg hr hrn
          go_wp2_with fail
          go_meet
          case rel => exact ⟨st, F, i0 + 4, d, rfl, by first | rfl | rw [ein], ⟨by have := HI.out; omega⟩, HAT, HS2, HSO⟩
        by_cases hnum : rd l i0 = 45 ∨ isDig (rd l i0)
        ·have f34 : (rd l i0 == 34) = false := beq_eq_false_iff_ne.mpr c34
         have f123 : (rd l i0 == 123) = false := beq_eq_false_iff_ne.mpr c123
         have f91 : (rd l i0 == 91) = false := beq_eq_false_iff_ne.mpr c91
         have f116 : (rd l i0 == 116) = false := beq_eq_false_iff_ne.mpr c116
         have f102 : (rd l i0 == 102) = false := beq_eq_false_iff_ne.mpr c102
         have f110 : (rd l i0 == 110) = false := beq_eq_false_iff_ne.mpr c110
         clear c34 c123 c91 c116 c102 c110
         have HCALL := Aside0.mk (HNUM.out _ i0 HS.out.below (by omega) hin)
         have HN := Aside0.mk hnum
         have f45 : (rd l i0 == 45) = true ∨ ((rd l i0 == 45) = false ∧ decide (48 ≤ rd l i0) = true ∧ decide (rd l i0 ≤ 57) = true) := by
          rcases hnum with h | h
          ·exact .inl (beq_iff_eq.mpr h)
          ·exact .inr ⟨beq_eq_false_iff_ne.mpr (by unfold isDig at h; omega), decide_eq_true h.1, decide_eq_true h.2⟩
         clear hnum
         have HKEEP : True := trivial
         rcases f45 with f45 | ⟨f45, f46, f47⟩
         all_goals
          go_wp2_with fail
          with_reducible refine HCALL.out.mono ?_
          rintro e w2 ⟨⟨r, rfl, hr⟩, hd2⟩
          have HS2 := Aside0.mk (HS.out.step hd2.below)
          have HR := Aside0.mk hr
          clear HS hd2 hr
          by_cases hr0 : r < 0
          ·have dr : decide (r < 0) = true := decide_eq_true hr0
           have HNO : Aside0 (dp q l .val [] 0 ≤ 64 → ¬ Due q l) := ⟨fun hdp hd => by
            rcases HR.out with ⟨_, hn⟩ | ⟨T, hT⟩
            ·exact HV.out.v.neg_num HT.out hd (by omega) hin HN.out hn
            ·have := fnum_ok (q := q) HT.out (by omega) (by have := HLEN.out; omega) (by rw [rdL (by omega) (by omega)]; exact HN.out) hT
             omega⟩
           clear hr0
           go_wp2_with fail
           go_ret
           exact ⟨⟨false, rfl, (fun h => by cases h), fun _ => HNO.out⟩, HS2.out.below⟩
          ·have dr : decide (r < 0) = false := decide_eq_false hr0
           obtain ⟨T, hT⟩ : ∃ T, fnum (l ++ [0]) i0 = some (r, T) := by
            rcases HR.out with h | h
            ·obtain ⟨h, _⟩ := h
             omega
            ·exact h
           have hch : rd (l ++ [0]) i0 = 45 ∨ isDig (rd (l ++ [0]) i0) := by rw [rdL (by omega) (by omega)]; exact HN.out
           have hg := fnum_ok (q := q) HT.out (by omega) (by have := HLEN.out; omega) hch hT
           have HAT := Aside0.mk (HV.out.num HT.out (by omega) (by have := HLEN.out; omega) hch hT)
           have hg2 : i0 < r ∧ r ≤ l.length := by have := HLEN.out; have := hg.1; have := hg.2.1; omega
           clear hT hg hch hr0
           go_wp2_with fail
           go_meet
           case rel => exact ⟨st, F, r, d, rfl, rfl, ⟨by have := HI.out; omega⟩, HAT, HS2, HSO⟩
        have f34 : (rd l i0 == 34) = false := beq_eq_false_iff_ne.mpr c34
        have f123 : (rd l i0 == 123) = false := beq_eq_false_iff_ne.mpr c123
        have f91 : (rd l i0 == 91) = false := beq_eq_false_iff_ne.mpr c91
        have f116 : (rd l i0 == 116) = false := beq_eq_false_iff_ne.mpr c116
        have f102 : (rd l i0 == 102) = false := beq_eq_false_iff_ne.mpr c102
        have f110 : (rd l i0 == 110) = false := beq_eq_false_iff_ne.mpr c110
        have f45 : (rd l i0 == 45) = false := beq_eq_false_iff_ne.mpr (fun h => hnum (.inl h))
        have HNO : Aside0 (dp q l .val [] 0 ≤ 64 → ¬ Due q l) := ⟨fun hdp hd => HV.out.v.neg HT.out hd (by omega) (by omega) (fun _ => ⟨c123, c91, c34, hnum, c116, c102, c110⟩)⟩
        clear c34 c123 c91 c116 c102 c110
        by_cases h48 : 48 ≤ rd l i0
        ·have f46 : decide (48 ≤ rd l i0) = true := decide_eq_true h48
         have f47 : decide (rd l i0 ≤ 57) = false := decide_eq_false (fun h => hnum (.inr ⟨h48, h⟩))
         clear hnum h48
         go_wp2_with fail
         go_ret
         exact ⟨⟨false, rfl, (fun h => by cases h), fun _ => HNO.out⟩, HS.out.below⟩
        have f46 : decide (48 ≤ rd l i0) = false := decide_eq_false h48
        clear hnum h48
        go_wp2_with fail
        go_ret
        exact ⟨⟨false, rfl, (fun h => by cases h), fun _ => HNO.out⟩, HS.out.below⟩
      case rest =>
       as_aux_lemma =>
        have H5 := Aside0.mk i5
        clear HI HV HS HSO hd0 hd64 i5
        obtain ⟨st, F, i, d, rfl, rfl, HI, HCC, HS, HSO⟩ := hcut
        obtain ⟨i1, i2, i3, i4⟩ := HI.out
        clear i3 i4
        go_wp2_with fail
        go_loopg [6, 8] (l.length + 1) (fun kq v6 v8 wx => ∃ (st : List Br) (F : Nat → Int) (i d : Int), v6 = .int .i64 d ∧ v8 = .int .i64 i ∧ Aside0 (i0 < i ∧ i ≤ l.length ∧ d = st.length ∧ st.length ≤ 64 ∧ (l.length : Int) + 1 ≤ i + kq) ∧ Aside0 (CAt q l st i) ∧ Aside0 (Stk w wx F) ∧ Aside0 (StkOf F st))
        case atStart => exact ⟨st, F, i, d, rfl, rfl, ⟨by have := HI.out; omega⟩, HCC, HS, HSO⟩
        case round =>
         as_aux_lemma =>
          clear HI HCC HS HSO
          obtain ⟨st, F, i, d, rfl, rfl, HI, HCC, HS, HSO⟩ := hrel
          obtain ⟨i1, i2, i3, i4, i5⟩ := HI.out
          have ei1 : wrap64 (i + 1) = i + 1 := by unfold wrap64; omega
          have ei2 : wrap64 (i + 1 + 1) = i + 1 + 1 := by unfold wrap64; omega
          rcases st with _ | ⟨b, rs⟩
          ·have fd : (d == 0) = true := beq_iff_eq.mpr i3
           clear i3 i4
           by_cases hend : i = l.length
           ·have HGOOD := Aside0.mk (HCC.out.c.good HT.out (by have := HLEN.out; omega))
            have fe : (i == (l.length : Int)) = true := beq_iff_eq.mpr hend
            clear hend
            go_wp2_with fail
            go_ret
            exact ⟨⟨true, rfl, (fun _ => HGOOD.out), fun h => by cases h⟩, HS.out.below⟩
           ·have fe : (i == (l.length : Int)) = false := beq_eq_false_iff_ne.mpr hend
            have HNO : Aside0 (dp q l .val [] 0 ≤ 64 → ¬ Due q l) := ⟨fun hdp hd => HCC.out.c.neg_end HT.out hd (by omega) (by omega)⟩
            clear hend
            go_wp2_with fail
            go_ret
            exact ⟨⟨false, rfl, (fun h => by cases h), fun _ => HNO.out⟩, HS.out.below⟩
          ·have hd1 : d = (rs.length : Int) + 1 := i3
           have hd64 : d ≤ 64 := by have h := i4; simp only [List.length_cons] at h; omega
           have fd : (d == 0) = false := beq_eq_false_iff_ne.mpr (by omega)
           have edm : wrap64 (d - 1) = d - 1 := by unfold wrap64; omega
           obtain ⟨hs1, hs2⟩ := HS.out.cell (d.toNat - 1) (by omega)
           have hs3 : F (d.toNat - 1) = shutB b := by rw [show d.toNat - 1 = rs.length by omega]; exact HSO.out.1
           have hbk := HSO.out.2.1
           have HD := Aside0.mk hd1
           have hdp : 0 < d := by omega
           clear i3 i4 hd1
           by_cases hin : i < l.length
           ·have dn : decide ((l.length : Int) ≤ i) = false := decide_eq_false (by omega)
            obtain ⟨ad2, hA, hxi⟩ := Kd.at_int (Kd.C_below HC.out HS.out.below) i (by omega) hin
            cases hA
            obtain ⟨top, htop⟩ : ∃ top, top = shutB b := ⟨_, rfl⟩
            rw [hs3, ← htop] at hs1
            clear hs3 hs2
            by_cases h44 : rd l i = 44
            ·have H44 := Aside0.mk h44
             rw [h44] at hxi
             clear h44
             rcases b with _ | _ | _
             ·have ht : top = 125 := htop
              subst ht
              have HN := Aside0.mk (HCC.out.name HT.out (by omega) hin H44.out)
              clear htop hbk
              by_cases hqn : i + 1 < (l.length : Int)
              ·have dn1 : decide ((l.length : Int) ≤ i + 1) = false := decide_eq_false (by omega)
               obtain ⟨ad3, hA, hxj⟩ := Kd.at_int (Kd.C_below HC.out HS.out.below) (i + 1) (by omega) hqn
               cases hA
               by_cases h34 : rd l (i + 1) = 34
               ·have H34 := Aside0.mk h34
                rw [h34] at hxj
                clear h34
                go_upto_if 195 with (fail)
                go_cut [8] from 13 to 227 (fun v8 wx => ∃ r : Int, v8 = .int .i64 r ∧ Aside0 (QE l (i + 1) r) ∧ Aside0 (Stk w wx F))
                case first =>
                 as_aux_lemma =>
                  obtain _ | _ := plain
                  ·have HCALL := Aside0.mk (HQ.out _ (i + 1) HS.out.below (by omega) hqn H34.out).2
                   go_wp2_with fail
                   with_reducible refine HCALL.out.mono ?_
                   rintro e w2 ⟨⟨r, rfl, hr⟩, hd2⟩
                   have HR := Aside0.mk hr
                   have HS2 := Aside0.mk (HS.out.step hd2.below)
                   clear hr hd2
                   go_wp2_with fail
                   go_meet
                   case rel => exact ⟨r, rfl, HR, HS2⟩
                  ·have HCALL := Aside0.mk ((HQ.out _ (i + 1) HS.out.below (by omega) hqn H34.out).1 rfl)
                   go_wp2_with fail
                   with_reducible refine HCALL.out.mono ?_
                   rintro e w2 ⟨⟨r, rfl, hr⟩, hd2⟩
                   have HR := Aside0.mk hr
                   have HS2 := Aside0.mk (HS.out.step hd2.below)
                   clear hr hd2
                   go_wp2_with fail
                   go_meet
                   case rel => exact ⟨r, rfl, HR, HS2⟩
                case rest =>
                 as_aux_lemma =>
                  clear HS hxi hxj hs1
                  obtain ⟨r, rfl, HR, HS⟩ := hcut
                  by_cases hr0 : r < 0
                  ·have dr : decide (r < 0) = true := decide_eq_true hr0
                   have HNO : Aside0 (dp q l .val [] 0 ≤ 64 → ¬ Due q l) := ⟨fun hdp hd => by
                    rcases HR.out with ⟨_, hn⟩ | ⟨T, hT⟩
                    ·exact HN.out.n.neg_text HT.out hd (by omega) hqn H34.out hn
                    ·have := fstr_ok (q := q) HT.out (by omega) (by have := HLEN.out; omega) hT
                     omega⟩
                   clear hr0
                   go_wp2_with fail
                   go_ret
                   exact ⟨⟨false, rfl, (fun h => by cases h), fun _ => HNO.out⟩, HS.out.below⟩
                  ·have dr : decide (r < 0) = false := decide_eq_false hr0
                   obtain ⟨T, hT⟩ : ∃ T, fstr (l ++ [0]) false (i + 1) = some (r, T) := by
                    rcases HR.out with h | h
                    ·obtain ⟨h, _⟩ := h
                     omega
                    ·exact h
                   have hrb := fstr_ok (q := q) HT.out (by omega) (by have := HLEN.out; omega) hT
                   have HFS := Aside0.mk hT
                   have hr1 : (i + 1) + 1 < r ∧ r ≤ l.length := by have := HLEN.out; omega
                   clear hT hrb hr0
                   by_cases hrn : r < l.length
                   ·have dn : decide ((l.length : Int) ≤ r) = false := decide_eq_false (by omega)
                    obtain ⟨ad2, hA, hxi⟩ := Kd.at_int (Kd.C_below HC.out HS.out.below) r (by omega) hrn
                    cases hA
                    by_cases h58 : rd l r = 58
                    ·have H58 := Aside0.mk h58
                     rw [h58] at hxi
                     clear h58
                     have HAT := Aside0.mk (HN.out.val HT.out (by omega) hqn H34.out HFS.out hrn H58.out)
                     have er1 : wrap64 (r + 1) = r + 1 := by unfold wrap64; omega
                     go_wp2_with fail
                     go_roundg g0
                     case measure => omega
                     case rel => exact ⟨.obj :: rs, F, r + 1, d, rfl, by first | rfl | rw [er1], ⟨by have := HI.out; have := H5.out; omega⟩, HAT, HS, HSO⟩
                    ·have f58 : (rd l r != 58) = true := bne_iff_ne.mpr h58
                     have HNO : Aside0 (dp q l .val [] 0 ≤ 64 → ¬ Due q l) := ⟨fun hdp hd => HN.out.n.neg_colon HT.out hd (by omega) hqn H34.out HFS.out (fun _ => h58)⟩
                     clear h58
                     go_wp2_with fail
                     go_ret
                     exact ⟨⟨false, rfl, (fun h => by cases h), fun _ => HNO.out⟩, HS.out.below⟩
                   ·have dn : decide ((l.length : Int) ≤ r) = true := decide_eq_true (by omega)
                    have HNO : Aside0 (dp q l .val [] 0 ≤ 64 → ¬ Due q l) := ⟨fun hdp hd => HN.out.n.neg_colon HT.out hd (by omega) hqn H34.out HFS.out (fun h => absurd h hrn)⟩
                    clear hrn
                    go_wp2_with fail
                    go_ret
                    exact ⟨⟨false, rfl, (fun h => by cases h), fun _ => HNO.out⟩, HS.out.below⟩
               ·have f34 : (rd l (i + 1) != 34) = true := bne_iff_ne.mpr h34
                have HNO : Aside0 (dp q l .val [] 0 ≤ 64 → ¬ Due q l) := ⟨fun hdp hd => HN.out.n.neg HT.out hd (by omega) (by omega) (fun _ => h34)⟩
                clear h34
                go_wp2_with fail
                go_ret
                exact ⟨⟨false, rfl, (fun h => by cases h), fun _ => HNO.out⟩, HS.out.below⟩
              ·have dn1 : decide ((l.length : Int) ≤ i + 1) = true := decide_eq_true (by omega)
               have HNO : Aside0 (dp q l .val [] 0 ≤ 64 → ¬ Due q l) := ⟨fun hdp hd => HN.out.n.neg HT.out hd (by omega) (by omega) (fun h => absurd h hqn)⟩
               clear hqn
               go_wp2_with fail
               go_ret
               exact ⟨⟨false, rfl, (fun h => by cases h), fun _ => HNO.out⟩, HS.out.below⟩
             ·have ht : top = 93 := htop
              subst ht
              have HAT := Aside0.mk (HCC.out.item HT.out (by omega) (by have := HLEN.out; omega) (by rw [rdL (by omega) (by omega)]; exact H44.out))
              clear htop hbk
              go_wp2_with fail
              go_roundg g0
              case measure => omega
              case rel => exact ⟨.arr :: rs, F, i + 1, d, rfl, by first | rfl | rw [ei1], ⟨by have := HI.out; have := H5.out; omega⟩, HAT, HS, HSO⟩
             ·exact absurd rfl hbk
            ·have f44 : (rd l i == 44) = false := beq_eq_false_iff_ne.mpr h44
             by_cases hsh : rd l i = top
             ·have fsh : (rd l i == top) = true := beq_iff_eq.mpr hsh
              have HAT : Aside0 (CAt q l rs (i + 1)) := ⟨by
               have e := hsh.trans htop
               rcases b with _ | _ | _
               ·exact HCC.out.shutO HT.out (by omega) (by have := HLEN.out; omega) (by rw [rdL (by omega) (by omega)]; exact e)
               ·exact HCC.out.shutA HT.out (by omega) (by have := HLEN.out; omega) (by rw [rdL (by omega) (by omega)]; exact e)
               ·exact absurd rfl hbk⟩
              obtain _ | g1 := gk
              ·exfalso; omega
              clear h44 hsh htop hbk
              go_wp2_with fail
              go_roundg g1
              case measure => omega
              case rel => exact ⟨rs, F, i + 1, d - 1, by first | rfl | rw [edm], by first | rfl | rw [ei1], ⟨by have h1 := HI.out; have h2 := HD.out; simp only [List.length_cons] at h1; omega⟩, HAT, HS, ⟨HSO.out.2.2⟩⟩
             ·have fsh : (rd l i == top) = false := beq_eq_false_iff_ne.mpr hsh
              have HNO : Aside0 (dp q l .val [] 0 ≤ 64 → ¬ Due q l) := ⟨fun hdp hd => HCC.out.c.neg HT.out hd hbk (by omega) (by omega) (fun _ => ⟨h44, (fun e => by rw [htop, e] at hsh; exact hsh), (fun e => by rw [htop, e] at hsh; exact hsh)⟩)⟩
              clear h44 hsh htop hbk
              go_wp2_with fail
              go_ret
              exact ⟨⟨false, rfl, (fun h => by cases h), fun _ => HNO.out⟩, HS.out.below⟩
           ·have dn : decide ((l.length : Int) ≤ i) = true := decide_eq_true (by omega)
            have HNO : Aside0 (dp q l .val [] 0 ≤ 64 → ¬ Due q l) := ⟨fun hdp hd => HCC.out.c.neg HT.out hd hbk (by omega) (by omega) (fun h => absurd h hin)⟩
            clear hin
            go_wp2_with fail
            go_ret
            exact ⟨⟨false, rfl, (fun h => by cases h), fun _ => HNO.out⟩, HS.out.below⟩
     ·have dn : decide ((l.length : Int) ≤ i0) = true := decide_eq_true (by omega)
      have HNO : Aside0 (dp q l .val [] 0 ≤ 64 → ¬ Due q l) := ⟨fun hdp hd => HV.out.v.neg HT.out hd (by omega) (by omega) (fun h => absurd h hin)⟩
      clear hin
      go_wp2_with fail
      go_ret
      exact ⟨⟨false, rfl, (fun h => by cases h), fun _ => HNO.out⟩, HS.out.below⟩
end
end Go.Proofs.YtbikiibpjdiaaaaDoor.Err
