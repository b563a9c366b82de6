/- skipGrammar: the outcome of the value at its place, whatever is open. -/
import Derived.Test.YtfkagnpdapkaaaaDoorGramC
import Derived.Test.YtfkagnpdapkaaaaDoorScC
import Derived.Test.YtfkagnpdapkaaaaDoorScA
import Derived.Laws.CopyOwn
import Derived.Deep.RegionHeld3
import Derived.Test.YtfkagnpdapkaaaaDoorTz
import Derived.Test.YtfkagnpdapkaaaaDoorRows
import Derived.LaidMore
import Derived.Test.YtfkagnpdapkaaaaDoorScB
import Derived.Test.YtfkagnpdapkaaaaDoorShelfQ
import Derived.Lib.LaidPrint
import Derived.Lib.LaidU8
import Derived.PinnedBridge
import Derived.Test.YtfkagnpdapkaaaaDoorSkipW
import Derived.Lib.SmallJoins
namespace Go.Proofs.YtfkagnpdapkaaaaDoor.Err
open Go.RowKit Go.Proofs.YtfkagnpdapkaaaaDoorW.PrintWords Go.Proofs.YtfkagnpdapkaaaaDoorW.PrintLast Go.Proofs.YtfkagnpdapkaaaaDoorW.PrintMore
open Go.Proofs.YtfkagnpdapkaaaaDoor.Tab Go.Proofs.YtfkagnpdapkaaaaDoor.QF
set_option linter.unusedVariables false
theorem rg_told {O : Out} {w0 w : World} {a : Act} (h : RG O w0 a w) : bodyPost Tryd.prog Tryd.f88 (Told O w0) .ret a w := by
  obtain ⟨hd, hb, ⟨d, h1, h2, h3⟩ | ⟨s, v, h1, h2, h3, h4⟩⟩ := h
  · refine bodyPost_ret (results_tmp2 rfl _ _ _) hd ⟨hb, .inl ⟨d, h1, ?_⟩⟩
    rw [h2, h3]
  · refine bodyPost_ret (results_tmp2 rfl _ _ _) hd ⟨hb, .inr ⟨s, v, h1, h2, ?_⟩⟩
    rw [h3, h4]
theorem find_atG {q : ByteArray → ByteArray} {ad : Addr} {c : Nat} {L : List Int} {nn : Int} {O : Out} {w0 w : World} {n l : Nat} {a : Act} (h : JG q ad c L nn O w0 n l a w) : (l = 0 ∨ l = 1 ∨ l = 2 ∨ l = 3) ∧ ∃ Y, findLabel (scopeOf Tryd.f88) l = some (Code.skip.seq Y) := by
  obtain ⟨_, x, lev, obj, v, D, _, _, _, _, _, st, _, _, _, _, _, _, hl⟩ := h
  match l, hl with
  | 0, _ => exact ⟨by omega, _, rfl⟩
  | 1, _ => exact ⟨by omega, _, rfl⟩
  | 2, _ => exact ⟨by omega, _, rfl⟩
  | 3, _ => exact ⟨by omega, _, rfl⟩
theorem pass_G (q : ByteArray → ByteArray) (ad : Addr) (c : Nat) (L : List Int) (nn : Int) (O : Out) (w0 : World) (hG : G q w0) (hB : Buf w0 ad c L) (hnn : nn + L.length - 1 ≤ 10000) (hn0 : -1 ≤ nn) (n l : Nat) (a : Act) (w : World) (Q : Exit → Act → World → Prop)
    (hJ : JG q ad c L nn O w0 n l a w) (hR : ∀ a' w', RG O w0 a' w' → Q .ret a' w') :
    ∃ rest, findLabel (scopeOf Tryd.f88) l = some rest ∧ rest.wp Tryd.prog (jumps (fun l' a' w' => ∃ n', n' < n ∧ JG q ad c L nn O w0 n' l' a' w') Q) a w := by
  obtain ⟨hl, Y, hY⟩ := find_atG hJ
  refine ⟨_, hY, wp_seq (wp_skip ?_)⟩
  have hQ : ∀ l' a' w', (∃ n', n' < n ∧ JG q ad c L nn O w0 n' l' a' w') → jumps (fun l' a' w' => ∃ n', n' < n ∧ JG q ad c L nn O w0 n' l' a' w') Q (.goto l') a' w' := fun l' a' w' h => h
  have hR' : ∀ a' w', RG O w0 a' w' → jumps (fun l' a' w' => ∃ n', n' < n ∧ JG q ad c L nn O w0 n' l' a' w') Q .ret a' w' := hR
  rcases hl with rfl | rfl | rfl | rfl
  · exact gpass0 q ad c L nn O w0 hG hB hnn hn0 Y hY n a w _ hJ hQ hR'
  · exact gpass1 q ad c L nn O w0 hG hB hnn hn0 Y hY n a w _ hJ hQ hR'
  · exact gpass2 q ad c L nn O w0 hG hB hnn hn0 Y hY n a w _ hJ hQ hR'
  · exact gpass3 q ad c L nn O w0 hG hB hnn hn0 Y hY n a w _ hJ hQ hR'
set_option maxRecDepth 100000 in
set_option maxHeartbeats 8000000 in
theorem gramSaid (q : ByteArray → ByteArray) : GramSaid q := by
  intro ad c L x n lev obj st w hG hB h0 h1 hrep hl hn hn0
  have HREP := Aside0.mk (RepD.of hrep)
  have hsm := hB.small
  obtain ⟨O, hO⟩ : ∃ O, out q L .val st x = O := ⟨_, rfl⟩
  rw [hO]
  have HO := Aside0.mk hO
  obtain ⟨Qx, hQx⟩ : ∃ Qx, Qx = bodyPost Tryd.prog Tryd.f88 (Told O w) := ⟨_, rfl⟩
  have HR : Aside0 (∀ a' w', RG O w a' w' → Qx .ret a' w') := ⟨fun a' w' h => by rw [hQx]; exact rg_told h⟩
  have HP : Aside0 (∀ n' l a' w', JG q ad c L n O w n' l a' w' → ∃ rest, findLabel (scopeOf Tryd.f88) l = some rest ∧ rest.wp Tryd.prog (jumps (fun l' a' w' => ∃ n'', n'' < n' ∧ JG q ad c L n O w n'' l' a' w') Qx) a' w') :=
    ⟨fun n' l a' w' h => pass_G q ad c L n O w hG hB hn hn0 n' l a' w' Qx h HR.out⟩
  have HB := Aside0.mk hB
  have HG := Aside0.mk hG
  clear hrep hB hG hO
  go_enter Tryd.func88, Tryd.ntmps88
  rw [← hQx]
  clear hQx
  refine wp_seq ?_
  go_wp2_with fail
  refine wp_scope_labels (JG q ad c L n O w) ?_ HP.out
  obtain ⟨Qj, hQj⟩ : ∃ Qj, Qj = jumps (fun l a w' => ∃ n', JG q ad c L n O w n' l a w') Qx := ⟨_, rfl⟩
  rw [← hQj]
  have HJ : Aside0 (∀ l a w', (∃ n', JG q ad c L n O w n' l a w') → Qj (.goto l) a w') := ⟨fun l a w' h => by rw [hQj]; exact h⟩
  have HRJ : Aside0 (∀ a' w', RG O w a' w' → Qj .ret a' w') := ⟨fun a' w' h => by rw [hQj]; exact HR.out a' w' h⟩
  clear hQj HR HP
  go_upto_block 0 with (fail)
  rename_i KL hKL
  refine wp_label (hKL _ _ ?_)
  refine gpass1 q ad c L n O w HG.out HB.out hn hn0 _ rfl (L.length - x).toNat _ w Qj ?_ (fun l a' w' h => by obtain ⟨n', _, h6⟩ := h; exact HJ.out l a' w' ⟨n', h6⟩) HRJ.out
  exact ⟨⟨rfl, rfl, rfl, rfl, rfl, rfl, Below.refl _ _⟩, x, lev, obj, _, [], rfl, rfl, rfl, rfl, Row.nil w w, st, h0, h1, hl, HREP.out, by simp, by omega, HO.out⟩
end Go.Proofs.YtfkagnpdapkaaaaDoor.Err
/- The thin package's doors: a text as an input, what is told of an error. -/
namespace Go.Proofs.YtfkagnpdapkaaaaDoor.Err
open Go.RowKit Go.Proofs.YtfkagnpdapkaaaaDoorW.PrintWords Go.Proofs.YtfkagnpdapkaaaaDoorW.PrintLast Go.Proofs.YtfkagnpdapkaaaaDoorW.PrintMore
open Go.Proofs.YtfkagnpdapkaaaaDoor.Dig Go.Proofs.YtfkagnpdapkaaaaDoor.Tab Go.Proofs.YtfkagnpdapkaaaaDoor.QF
set_option linter.unusedVariables false
theorem nums_cell {l : List Int} {v : Value} (h : v ∈ nums .u8 l) : v.oneCell' = true := by
  unfold nums at h
  obtain ⟨x, _, rfl⟩ := List.mem_map.1 h
  rfl
theorem copy_src {w : World} {A : Option Addr} {l : List Int} {O : Obj} {g : Nat} (hC : Kd.C (Kd.int .u8) w A l.length l) : 0 < (nums .u8 l).length → some (⟨g, 0, none⟩ : Addr) = some ⟨g, 0, none⟩ ∧ ∃ ad, A = some ad ∧ ∀ j v, (nums .u8 l)[j]? = some v → (w.alloc O).cell? (ad.add j) = some v := by
  intro h
  rw [nums_length] at h
  obtain ⟨ad, e, _⟩ := Kd.at_int hC 0 (by omega) (by omega)
  refine ⟨rfl, ad, e, fun j v hv => ?_⟩
  unfold nums at hv
  rw [List.getElem?_map] at hv
  obtain ⟨x, hx, rfl⟩ := Option.map_eq_some_iff.1 hv
  have hj : j < l.length := (List.getElem?_eq_some_iff.1 hx).1
  obtain ⟨ad', e', hc⟩ := Kd.at_int (Kd.C_below hC (below_alloc (Below.refl _ _) O)) (j : Int) (by omega) (by omega)
  rw [e] at e'
  cases e'
  rw [Int.toNat_natCast] at hc
  rw [hc]
  congr 2
  obtain ⟨_, e2⟩ := rd_get l (j : Int) (by omega) (by omega)
  rw [e2]
  simp only [Int.toNat_natCast]
  rw [List.getElem?_eq_getElem hj] at hx
  exact Option.some.inj hx
theorem buf_made {w w1 : World} {l : List Int} (hb : ∀ x, x ∈ l → 0 ≤ x ∧ x < 256) (hl : l.length ≤ 10000) (h : w1.heap[w.heap.size]? = some (.cells (splice (madeCells #[Value.int IntKind.u8 0] (l.length + 1)).toList 0 (nums .u8 l)).toArray 5 (0, 0))) : Buf w1 ⟨w.heap.size, 0, none⟩ (l.length + 1) (l ++ [0]) := by
  have hm : (madeCells #[Value.int IntKind.u8 0] (l.length + 1)).toList = nums .u8 (List.replicate (l.length + 1) 0) := by
    apply List.ext_getElem
    · simp [nums, madeCells]
    · intro i h1 h2
      simp [nums, madeCells, Nat.mod_one]
  have hs : splice (madeCells #[Value.int IntKind.u8 0] (l.length + 1)).toList 0 (nums .u8 l) = nums .u8 (l ++ [0]) := by
    rw [hm]
    unfold splice
    rw [List.take_zero, List.nil_append, nums_length, Nat.zero_add, nums_append]
    congr 1
    unfold nums
    rw [← List.map_drop, List.drop_replicate]
    simp
  rw [hs] at h
  have hlen : (l ++ [(0 : Int)]).length = l.length + 1 := by rw [List.length_append]; rfl
  have ho : w1.ownsRow w.heap.size 5 1 (.slice (some ⟨w.heap.size, 0, none⟩) (l.length + 1) (l.length + 1)) (l.length + 1) (nums .u8 (l ++ [0])) :=
    ⟨by rw [nums_length, hlen]; omega, .inr ⟨w.heap.size, l.length + 1, _, rfl, Nat.le_refl _, h, Nat.le_refl _, by unfold maxLen; omega, by rw [List.size_toArray, nums_length, hlen]; omega, by
      rw [List.take_of_length_le]
      rw [nums_length, hlen]; omega⟩⟩
  obtain ⟨A, c, e, hr⟩ := own_reads ho
  cases e
  have hR : Kd.C (Kd.int .u8) w1 (some ⟨w.heap.size, 0, none⟩) (l ++ [0]).length (l ++ [0]) := by
    rw [hlen]
    exact Kd.C_of_reads (d := (0 : Int)) (h1 := fun _ => rfl) hr
  refine ⟨hR, by omega, fun x hx => ?_, by omega, by omega, ?_⟩
  · rcases List.mem_append.1 hx with hx | hx
    · exact hb x hx
    · rw [List.mem_singleton] at hx
      subst hx
      decide
  · rw [hlen]
    have := rd_last l 0
    rw [show ((l.length + 1 : Nat) : Int) - 1 = (l.length : Int) by omega]
    exact this
set_option maxRecDepth 100000 in
set_option maxHeartbeats 4000000 in
theorem newInput (A : Option Addr) (c : Nat) (l : List Int) (w : World) (hC : Kd.C (Kd.int .u8) w A l.length l) (hcap : l.length ≤ c) (hb : ∀ x, x ∈ l → 0 ≤ x ∧ x < 256) (hl : l.length ≤ 10000) :
    Calls Tryd.prog 75 #[.slice A l.length c] w fun e w' => ∃ ad cc, e = .returned (.slice (some ad) (l ++ [0]).length cc) ∧ Buf w' ad cc (l ++ [0]) ∧ Below w.heap.size w w' := by
  have HC := Aside0.mk hC
  have HBY := Aside0.mk hb
  obtain ⟨m, hm⟩ : ∃ m, m = l.length + 1 := ⟨_, rfl⟩
  have hmc : (l.length : Int) + 1 = (m : Int) := by omega
  have HMK := print_make (P := Tryd.prog) 22 5 .u8 1 Tryd.underlying22 (by kernel_rfl) (by omega) m (by omega)
  have HM := Aside0.mk hm
  have hlm : l.length ≤ m ∧ m ≤ 10001 := by omega
  clear hC hb hm
  go_enter Tryd.func75, Tryd.ntmps75
  go_wp2_with ((with_reducible refine gate_builtin (b := .copy) (xs := #[.tmp 8, .tmp 9]) rfl ?_); refine wpList_copy_splice rfl (.tmp 8) (.tmp 9) 22 22 rfl 5 Tryd.underlying22 (by kernel_rfl) (some ⟨w.heap.size, 0, none⟩) A m m l.length c rfl rfl w.heap.size 0 (madeCells #[Value.int IntKind.u8 0] m).toList 5 ?hg (nums .u8 l) ?hn ?hpos ?hfit ?h1 w.heap.size w ?hb (Nat.le_refl _) ?_; (case hg => exact blk_new w _); (case hn => rw [nums_length]; exact (Nat.min_eq_left hlm.1).symm); (case hpos => exact copy_src HC.out); (case hfit => rw [nums_length]; simp [size_madeCells]; omega); (case h1 => intro v hv; exact nums_cell hv); (case hb => exact below_alloc (Below.refl _ _) _); intro w1 hw1 hb1; have HW1 := Aside0.mk hw1; have HB1 := Aside0.mk hb1; clear hw1 hb1)
  go_ret
  have hm := HM.out
  subst hm
  refine ⟨⟨w.heap.size, 0, none⟩, l.length + 1, by rw [List.length_append]; rfl, ?_, HB1.out⟩
  exact buf_made HBY.out hl HW1.out
theorem pt_cells {w : World} {g : Nat} {s : SE} (h : PT w g s) : w.cell? ⟨g, 0, none⟩ = some (.string s.msg) ∧ w.cell? ⟨g, 1, none⟩ = some (.int .i64 s.off) ∧ w.cell? ⟨g, 2, none⟩ = some (.bool s.atEnd) ∧ w.cell? ⟨g, 3, none⟩ = some (.int .i64 s.va) := by
  unfold PT at h
  refine ⟨?_, ?_, ?_, ?_⟩ <;> simp [World.cell?, h]
set_option maxRecDepth 100000 in
theorem ta (g : Nat) (W : World) : Sem.run Tryd.prog (Instr.typeAssert (.iface 86 (.pointer (some ⟨g, 0, none⟩))) 68 86 true) W = .ok (.tuple #[.pointer (some ⟨g, 0, none⟩), .bool true]) W := by
  rfl
set_option maxRecDepth 100000 in
theorem errorText (g : Nat) (m : ByteArray) (w : World) (h0 : w.cell? ⟨g, 0, none⟩ = some (.string m)) : Calls Tryd.prog 71 #[.pointer (some ⟨g, 0, none⟩)] w fun e w' => e = .returned (.string m) ∧ w = w' := by
  go_enter Tryd.func71, Tryd.ntmps71
  go_wp2
  go_ret
  exact ⟨rfl, rfl⟩
set_option maxRecDepth 100000 in
theorem errorAtEnd (g : Nat) (b : Bool) (w : World) (h2 : w.cell? ⟨g, 2, none⟩ = some (.bool b)) : Calls Tryd.prog 72 #[.iface 86 (.pointer (some ⟨g, 0, none⟩))] w fun e w' => e = .returned (.bool b) ∧ w = w' := by
  have hta := ta g
  go_enter Tryd.func72, Tryd.ntmps72
  go_wp2
  go_ret
  exact ⟨rfl, rfl⟩
/-- The place of a byte that begins no value, as it is told. -/
def startAt (va : Int) : Int := if va = 0 then 0 else va - 1
def started (va : Int) : Bool := va != 0
set_option maxRecDepth 100000 in
theorem errorStart (g : Nat) (va : Int) (w : World) (h3 : w.cell? ⟨g, 3, none⟩ = some (.int .i64 va)) (hv : 0 ≤ va) (hv2 : va ≤ 20000) : Calls Tryd.prog 73 #[.iface 86 (.pointer (some ⟨g, 0, none⟩))] w fun e w' => e = .returned (.tuple #[.int .i64 (startAt va), .bool (started va)]) ∧ w = w' := by
  have hta := ta g
  by_cases hz : va = 0
  · subst hz
    go_enter Tryd.func73, Tryd.ntmps73
    go_wp2
    go_ret2
    exact ⟨rfl, rfl⟩
  · have f1 : (va == 0) = false := beq_eq_false_iff_ne.mpr hz
    have e1 : startAt va = va - 1 := if_neg hz
    have e2 : started va = true := bne_iff_ne.mpr hz
    rw [e1, e2]
    clear e1 e2 hz
    go_enter Tryd.func73, Tryd.ntmps73
    go_wp2
    go_ret2
    exact ⟨rfl, rfl⟩
def noFault : Value := .agg #[.bool false, .int .i64 0, .string ByteArray.empty, .bool false, .bool false, .int .i64 0]
/-- What is told of a fault. -/
def faultV (s : SE) : Value := .agg #[.bool true, .int .i64 s.off, .string s.msg, .bool s.atEnd, .bool (started s.va), .int .i64 (startAt s.va)]
set_option maxRecDepth 100000 in
set_option maxHeartbeats 4000000 in
theorem faultNil (w : World) : Calls Tryd.prog 49 #[.nilIface] w fun e w' => e = .returned (.tuple #[noFault, .bool true]) ∧ Below w.heap.size w w' := by
  go_enter Tryd.func49, Tryd.ntmps49
  go_wp2
  refine bodyPost_ret (v := .tuple #[noFault, .bool true]) (by unfold noFault; simp [results, Tryd.results49, go_sem]; rfl) rfl ⟨rfl, ?_⟩
  repeat (first | exact below_alloc (Below.refl _ _) _ | (refine Below.setCell ?_ (Nat.le_refl _) _))
set_option maxRecDepth 100000 in
set_option maxHeartbeats 4000000 in
theorem faultErr (g : Nat) (s : SE) (w : World) (h : PT w g s) (hv : 0 ≤ s.va) (hv2 : s.va ≤ 20000) : Calls Tryd.prog 49 #[.iface 86 (.pointer (some ⟨g, 0, none⟩))] w fun e w' => e = .returned (.tuple #[faultV s, .bool true]) ∧ Below w.heap.size w w' := by
  have hlt := blk_lt' h
  obtain ⟨h0, h1, h2, h3⟩ := pt_cells h
  have H := Aside0.mk h
  have hta := ta g
  clear h
  go_enter Tryd.func49, Tryd.ntmps49
  go_upto_region 6 with (fail)
  go_region_held3 (fun w' => w'.cell? ⟨g, 0, none⟩ = some (.string s.msg) ∧ w'.cell? ⟨g, 1, none⟩ = some (.int .i64 s.off) ∧ w'.cell? ⟨g, 2, none⟩ = some (.bool s.atEnd) ∧ w'.cell? ⟨g, 3, none⟩ = some (.int .i64 s.va)) (go_keep) (first | (go_at_call 71; refine (errorText g s.msg _ ?_).mono ?_; (simp [*]); rintro e w' ⟨rfl, rfl⟩) | (go_at_call 72; refine (errorAtEnd g s.atEnd _ ?_).mono ?_; (simp [*]); rintro e w' ⟨rfl, rfl⟩))
  all_goals
    rename_i hS
    obtain ⟨k0, k1, k2, k3⟩ := hS
    have K3 := Aside0.mk k3
    clear k0 k1 k2 k3
    go_wp2_with fail
    with_reducible refine (errorStart g s.va _ K3.out hv hv2).mono ?_
    rintro e w' ⟨rfl, rfl⟩
    go_wp2_with fail
    refine bodyPost_ret (v := .tuple #[faultV s, .bool true]) (by unfold faultV; simp [results, Tryd.results49, go_sem]) rfl ⟨rfl, ?_⟩
    exact (below_alloc (below_alloc (Below.refl _ _) _) _).drew
set_option maxRecDepth 100000 in
theorem input (A : Option Addr) (c : Nat) (l : List Int) (w : World) (hC : Kd.C (Kd.int .u8) w A l.length l) (hcap : l.length ≤ c) (hb : ∀ x, x ∈ l → 0 ≤ x ∧ x < 256) (hl : l.length ≤ 10000) :
    Calls Tryd.prog 51 #[.slice A l.length c] w fun e w' => ∃ ad cc L, e = .returned (.slice (some ad) L.length cc) ∧ Aside0 (L = l ++ [0]) ∧ Buf w' ad cc L ∧ Below w.heap.size w w' := by
  have HI := Aside0.mk (newInput A c l w hC hcap hb hl)
  clear hC hb
  go_enter Tryd.func51, Tryd.ntmps51
  go_wp2_with fail
  with_reducible refine HI.out.mono ?_
  rintro e w' ⟨ad, cc, rfl, hB, hb⟩
  obtain ⟨L, hL⟩ : ∃ L, L = l ++ [0] := ⟨_, rfl⟩
  rw [← hL] at hB ⊢
  have HL := Aside0.mk hL
  have HB := Aside0.mk hB
  have HBB := Aside0.mk hb
  clear hB hb hL
  go_wp2_with fail
  go_ret
  exact ⟨ad, cc, L, rfl, HL, HB.out, HBB.out⟩
end Go.Proofs.YtfkagnpdapkaaaaDoor.Err
/- What the rows' list of package-level tables gives: the table of math/bits holds what Go lays. -/
namespace Go.Proofs.YtfkagnpdapkaaaaDoor.Laid
open Go.RowKit
abbrev tabs : List (String × DataW Unit) := [("math/bits.deBruijn64tab", Rows.laid_math_bits_deBruijn64tab), ("unicode/utf8.acceptRanges", Rows.laid_unicode_utf8_acceptRanges), ("strconv.isGraphic", Rows.laid_strconv_isGraphic), ("strconv.isNotPrint16", Rows.laid_strconv_isNotPrint16), ("strconv.isNotPrint32", Rows.laid_strconv_isNotPrint32), ("strconv.isPrint16", Rows.laid_strconv_isPrint16), ("strconv.isPrint32", Rows.laid_strconv_isPrint32), ("unicode/utf8.first", Rows.laid_unicode_utf8_first)]
theorem plain {W : World} (h : laidMetH Tryd.prog tabs W) : laidMet Tryd.prog tabs W := by
  rw [MakeChecks.laidMetH_plain _ _ _ (by kernel_rfl)] at h
  exact h
theorem glob {W : World} (h : laidMetH Tryd.prog tabs W) : Tab.Glob W := by
  have h := plain h
  have hT : Lib.TabIs Tryd.prog W "math/bits.deBruijn64tab" .u8 (Lib.deBruijn64tab.map fun n : Nat => (n : Int)) :=
    Lib.tabIs_of_head (g := 0) (t := 34) (e := 5) (n := 64) (by kernel_rfl) (by kernel_rfl) (by kernel_rfl) Tryd.underlying5 (by kernel_rfl) (by kernel_rfl) h
  refine ⟨fun i hi => ?_⟩
  have := hT.cell (g := 0) (by kernel_rfl) i (by rw [List.length_map]; exact hi)
  rw [this]
  congr 2
  simp only [List.getD_eq_getElem?_getD, List.getElem?_map]
  have hl : Lib.deBruijn64tab.length = 64 := rfl
  rw [List.getElem?_eq_getElem (by omega)]
  rfl
end Go.Proofs.YtfkagnpdapkaaaaDoor.Laid
/- G, out of the rows' list of package-level tables: strconv.Quote answers what the shelf's plain function says. -/
namespace Go.Proofs.YtfkagnpdapkaaaaDoor.Laid
open Go.RowKit Go.Lib Go.Proofs.YtfkagnpdapkaaaaDoorW.PrintWords Go.Proofs.YtfkagnpdapkaaaaDoorW.PrintLast Go.Proofs.YtfkagnpdapkaaaaDoorW.PrintMore
open Go.Proofs.YtfkagnpdapkaaaaDoor.Err
/-- What strconv.Quote answers. -/
def goQ (s : ByteArray) : ByteArray := strOfNums (Lib.quoteZ Lib.goPrintTabs s)
theorem tab_below {g : Nat} {k : IntKind} {t : List Nat} {w w' : World} (h : Lib.TabSlice g k t w) (hb : Below w.heap.size w w') : Lib.TabSlice g k t w' := by
  obtain ⟨R, o, c, h1, h2⟩ := h
  exact ⟨R, o, c, pw_cell_below hb h1, fun j hj => pw_cell_below hb (h2 j hj)⟩
theorem prints {W : World} (h : laidMetH Tryd.prog tabs W) : Lib.PrintTabsAt 3 4 5 6 Lib.goPrintTabs W ∧ Lib.Utf8Tabs 1 2 W := by
  have hL := plain h
  have h16 : VarReads Tryd.prog W "strconv.isPrint16" (sliceData .u16 goPrintTabs.p16) := by
    rw [← Pinned.isPrint16_eq]
    exact Lib.laidMet.reads hL (.tail _ (.tail _ (.tail _ (.tail _ (.tail _ (.head _))))))
  have hn16 : VarReads Tryd.prog W "strconv.isNotPrint16" (sliceData .u16 goPrintTabs.n16) := by
    rw [← Pinned.isNotPrint16_eq]
    exact Lib.laidMet.reads hL (.tail _ (.tail _ (.tail _ (.head _))))
  have h32 : VarReads Tryd.prog W "strconv.isPrint32" (sliceData .u32 goPrintTabs.p32) := by
    rw [← Pinned.isPrint32_eq]
    exact Lib.laidMet.reads hL (.tail _ (.tail _ (.tail _ (.tail _ (.tail _ (.tail _ (.head _)))))))
  have hn32 : VarReads Tryd.prog W "strconv.isNotPrint32" (sliceData .u16 goPrintTabs.n32) := by
    rw [← Pinned.isNotPrint32_eq]
    exact Lib.laidMet.reads hL (.tail _ (.tail _ (.tail _ (.tail _ (.head _)))))
  have hf : VarReads Tryd.prog W "unicode/utf8.first" firstData := by
    rw [← Pinned.utf8First_eq]
    exact Lib.laidMet.reads hL (.tail _ (.tail _ (.tail _ (.tail _ (.tail _ (.tail _ (.tail _ (.head _))))))))
  have ha : VarReads Tryd.prog W "unicode/utf8.acceptRanges" acceptData := Lib.laidMet.reads hL (.tail _ (.head _))
  exact ⟨printTabs_of_reads (ρ := Tryd.lays177_ren) { Tryd.lays177 with } ⟨by kernel_rfl, by kernel_rfl, by kernel_rfl, by kernel_rfl, by kernel_rfl, by kernel_rfl, by kernel_rfl, by kernel_rfl, by kernel_rfl, by kernel_rfl⟩ h16 hn16 h32 hn32,
    utf8Tabs_of_reads (ρ := Tryd.lays177_ren) { Tryd.lays177 with } ⟨by kernel_rfl, by kernel_rfl, by kernel_rfl, by kernel_rfl, by kernel_rfl, by kernel_rfl, by kernel_rfl⟩ hf ha⟩
theorem g {W : World} (h : laidMetH Tryd.prog tabs W) : G goQ W := by
  obtain ⟨hT, hU⟩ := prints h
  refine ⟨glob h, fun s => ?_, fun c h0 h1 => ?_, by kernel_rfl, fun s w' hs hb => ?_⟩
  · unfold goQ
    rw [strOfNums_size]
    unfold Lib.quoteZ
    rw [List.length_cons, List.length_append, List.length_singleton]
    omega
  · unfold goQ
    rw [strOfNums_size]
    have h2 := Lib.quoteZ_length_le Lib.goPrintTabs (Utf8.encode c)
    have h3 := encode_size_le c
    omega
  · exact Tryd.strconv_Quote Lib.goPrintTabs s w' (by omega) ⟨tab_below hT.1 hb, tab_below hT.2.1 hb, tab_below hT.2.2.1 hb, tab_below hT.2.2.2.1 hb, hT.2.2.2.2⟩ (Utf8Tabs_below hU hb)
end Go.Proofs.YtfkagnpdapkaaaaDoor.Laid
/- The thin package's ValueEnd and ValueEndBySteps: what they tell is the outcome of the scanner. -/
namespace Go.Proofs.YtfkagnpdapkaaaaDoor.Err
open Go.RowKit Go.Proofs.YtfkagnpdapkaaaaDoorW.PrintWords Go.Proofs.YtfkagnpdapkaaaaDoorW.PrintLast Go.Proofs.YtfkagnpdapkaaaaDoorW.PrintMore
open Go.Proofs.YtfkagnpdapkaaaaDoor.Dig Go.Proofs.YtfkagnpdapkaaaaDoor.Tab Go.Proofs.YtfkagnpdapkaaaaDoor.QF
set_option linter.unusedVariables false
/-- A block of six cells, read behind an allocation. -/
theorem six' {w : World} {b : Nat} {v0 v1 v2 v3 v4 v5 : Value} {t : TypeId} (h : w.heap[b]? = some (.cells #[v0, v1, v2, v3, v4, v5] t (0, 0))) :
    (∀ X : Obj, (w.alloc X).cell? ⟨b, 0, none⟩ = some v0) ∧ (∀ X : Obj, (w.alloc X).cell? ⟨b, 1, none⟩ = some v1) ∧ (∀ X : Obj, (w.alloc X).cell? ⟨b, 2, none⟩ = some v2) ∧ (∀ X : Obj, (w.alloc X).cell? ⟨b, 3, none⟩ = some v3) ∧ (∀ X : Obj, (w.alloc X).cell? ⟨b, 4, none⟩ = some v4) ∧ (∀ X : Obj, (w.alloc X).cell? ⟨b, 5, none⟩ = some v5) ∧
    (∀ X : Obj, (w.alloc X).frozen? ⟨b, 0, none⟩ = false) ∧ (∀ X : Obj, (w.alloc X).frozen? ⟨b, 1, none⟩ = false) ∧ (∀ X : Obj, (w.alloc X).frozen? ⟨b, 2, none⟩ = false) ∧ (∀ X : Obj, (w.alloc X).frozen? ⟨b, 3, none⟩ = false) ∧ (∀ X : Obj, (w.alloc X).frozen? ⟨b, 4, none⟩ = false) ∧ (∀ X : Obj, (w.alloc X).frozen? ⟨b, 5, none⟩ = false) := by
  have h2 : ∀ X : Obj, (w.alloc X).heap[b]? = some (.cells #[v0, v1, v2, v3, v4, v5] t (0, 0)) := fun X => (Below.heap_alloc w X b (blk_lt' h)).trans h
  refine ⟨fun X => ?_, fun X => ?_, fun X => ?_, fun X => ?_, fun X => ?_, fun X => ?_, fun X => ?_, fun X => ?_, fun X => ?_, fun X => ?_, fun X => ?_, fun X => ?_⟩
  all_goals simp [World.cell?, World.frozen?, h2 X]
theorem outL_va (q : ByteArray → ByteArray) : ∀ (l : List Int) (ph : Ph) (st : List Br) (i : Int) (s : SE), 0 ≤ i → outL q l ph st i = .fault s → 0 ≤ s.va ∧ s.va ≤ i + l.length
  | [], ph, st, i, s, h0, h => by
    unfold outL at h
    split at h
    · cases h
    · cases h
      unfold endF
      split <;> (simp; omega)
  | c :: r, ph, st, i, s, h0, h => by
    unfold outL at h
    rw [List.length_cons]
    split at h
    · split at h
      · cases h
      · cases h
        simp only
        split <;> omega
    · split at h
      · split at h
        · cases h
        · cases h
      · have := outL_va q r _ _ _ s (by omega) h
        omega
theorem out_va {q : ByteArray → ByteArray} {L : List Int} {ph : Ph} {st : List Br} {i : Int} {s : SE} (h0 : 0 ≤ i) (h1 : i < L.length) (hl : L.length ≤ 10001) (h : out q L ph st i = .fault s) : 0 ≤ s.va ∧ s.va ≤ 20000 := by
  have := outL_va q _ ph st i s h0 h
  rw [List.length_drop, List.length_take] at this
  omega
/-- What is told of an outcome. -/
def toldV : Out → Value
  | .done d => .tuple #[.int .i64 d, noFault, .bool true]
  | .fault s => .tuple #[.int .i64 0, faultV s, .bool true]
set_option maxRecDepth 100000 in
set_option maxHeartbeats 4000000 in
theorem door62 (q : ByteArray → ByteArray) (ad : Addr) (c : Nat) (L : List Int) (x n : Int) (w : World) (hG : G q w) (hB : Buf w ad c L) (h0 : 0 ≤ x) (h1 : x < L.length) (hn : n + L.length - 1 ≤ 10000) (hn0 : 0 ≤ n) :
    Calls Tryd.prog 62 #[.slice (some ad) L.length c, .int .i64 x, .int .i64 n] w (Told (out q L .val [] x) w) := by
  have HC := Aside0.mk (skipValue q (gramSaid q) ad c L x n w hG hB h0 h1 hn hn0)
  clear hG hB
  go_enter Tryd.func62, Tryd.ntmps62
  go_wp2_with fail
  with_reducible refine HC.out.mono ?_
  rintro e w4 ⟨hb, ⟨d, hd, rfl⟩ | ⟨s, v, hs, hv, rfl⟩⟩
  · have HB4 := Aside0.mk hb
    have HO2 := Aside0.mk hd
    clear hb hd
    go_wp2_with fail
    go_ret2
    exact ⟨HB4.out, .inl ⟨d, HO2.out, rfl⟩⟩
  · have HB4 := Aside0.mk hb
    have HO2 := Aside0.mk hs
    have HV := Aside0.mk hv
    clear hb hs hv
    go_wp2_with fail
    go_ret2
    exact ⟨HB4.out, .inr ⟨s, v, HO2.out, HV.out, rfl⟩⟩
set_option maxRecDepth 100000 in
set_option maxHeartbeats 4000000 in
theorem door63 (q : ByteArray → ByteArray) (ad : Addr) (c : Nat) (L : List Int) (x n : Int) (w : World) (hG : G q w) (hB : Buf w ad c L) (h0 : 0 ≤ x) (h1 : x < L.length) (hn : n + L.length - 1 ≤ 10000) (hn0 : 0 ≤ n) :
    Calls Tryd.prog 63 #[.slice (some ad) L.length c, .int .i64 x, .int .i64 n] w (Told (out q L .val [] x) w) := by
  have HC := Aside0.mk ((gramSaid q).call ad c L x n 0 0 [] w hG hB h0 h1 rep_nil h0 hn (by omega))
  clear hG hB
  go_enter Tryd.func63, Tryd.ntmps63
  go_wp2_with fail
  with_reducible refine HC.out.mono ?_
  rintro e w4 ⟨hb, ⟨d, hd, rfl⟩ | ⟨s, v, hs, hv, rfl⟩⟩
  · have HB4 := Aside0.mk hb
    have HO2 := Aside0.mk hd
    clear hb hd
    go_wp2_with fail
    go_ret2
    exact ⟨HB4.out, .inl ⟨d, HO2.out, rfl⟩⟩
  · have HB4 := Aside0.mk hb
    have HO2 := Aside0.mk hs
    have HV := Aside0.mk hv
    clear hb hs hv
    go_wp2_with fail
    go_ret2
    exact ⟨HB4.out, .inr ⟨s, v, HO2.out, HV.out, rfl⟩⟩
set_option maxRecDepth 100000 in
set_option maxHeartbeats 8000000 in
theorem impl34 (q : ByteArray → ByteArray) (A : Option Addr) (c : Nat) (l : List Int) (x n : Int) (w : World) (hG : G q w) (hC : Kd.C (Kd.int .u8) w A l.length l) (hcap : l.length ≤ c) (hb : ∀ y, y ∈ l → 0 ≤ y ∧ y < 256) (h0 : 0 ≤ x) (h1 : x ≤ l.length) (hn : n + l.length ≤ 10000) (hn0 : 0 ≤ n) :
    Calls Tryd.prog 34 #[.slice A l.length c, .int .i64 x, .int .i64 n] w fun e w' => e = .returned (toldV (out q (l ++ [0]) .val [] x)) ∧ Below w.heap.size w w' := by
  have HI : Aside0 (∀ W, Below w.heap.size w W → Calls Tryd.prog 51 #[.slice A l.length c] W fun e w' => ∃ ad cc L, e = .returned (.slice (some ad) L.length cc) ∧ Aside0 (L = l ++ [0]) ∧ Buf w' ad cc L ∧ Below W.heap.size W w') := ⟨fun W hbl => input A c l W (Kd.C_below hC hbl) hcap hb (by omega)⟩
  have HLEN : Aside0 (∀ L, L = l ++ [0] → (L.length : Int) = l.length + 1) := ⟨fun L h => by rw [h, List.length_append]; rfl⟩
  have HG := Aside0.mk hG
  clear hC hb hG
  go_enter Tryd.func34, Tryd.ntmps34
  go_wp2_with fail
  with_reducible refine (HI.out _ (below_alloc (Below.refl _ _) _)).mono ?_
  rintro e w1 ⟨ad, cc, L, rfl, HL, hB1, hb1⟩
  have hsm := hB1.small
  have HB1 := Aside0.mk hB1
  have HBB := Aside0.mk (below_step (below_alloc (Below.refl _ w) _) hb1)
  have HB10 := Aside0.mk hb1
  clear hB1 hb1
  go_wp2_with fail
  with_reducible refine (door62 q ad cc L x n _ (HG.out.below HBB.out) HB1.out h0 (by have := HLEN.out L HL.out; omega) (by have := HLEN.out L HL.out; omega) hn0).mono ?_
  rintro e w2 ⟨hb2, ⟨d, hd, rfl⟩ | ⟨s, v, hs, ⟨g, rfl, hp⟩, rfl⟩⟩
  · have HBB2 := Aside0.mk (below_step HBB.out hb2)
    have HB20 := Aside0.mk (below_step HB10.out hb2)
    have HRES : Aside0 (toldV (out q (l ++ [0]) .val [] x) = .tuple #[.int .i64 d, noFault, .bool true]) := ⟨by rw [← HL.out, hd]; rfl⟩
    clear hb2 hd
    go_wp2_with fail
    with_reducible refine (faultNil _).mono ?_
    rintro e w3 ⟨rfl, hb3⟩
    have HB3 : Aside0 (Below w.heap.size w w3) := ⟨below_step HBB2.out hb3⟩
    have hsz := (below_step HB20.out hb3).size
    have hblk := ((below_step HB20.out hb3).block w.heap.size (blk_lt' (blk_new w _))).trans (blk_new w _)
    obtain ⟨c0, c1, c2, c3, c4, c5, k0, k1, k2, k3, k4, k5⟩ := six' hblk
    clear hb3 hblk
    unfold noFault
    go_upto_region 3 with (fail)
    go_region
    go_wp2_with fail
    rw [HRES.out]
    refine bodyPost_ret (v := .tuple #[.int .i64 d, .agg #[.bool false, .int .i64 0, .string ByteArray.empty, .bool false, .bool false, .int .i64 0], .bool true]) (by simp [results, Tryd.results34, go_sem, c0, c1, c2, c3, c4, c5]) rfl ⟨rfl, ?_⟩
    exact (((((((HB3.out.alloc HB3.out.size _).setCell (Nat.le_refl _) _).setCell (Nat.le_refl _) _).setCell (Nat.le_refl _) _).setCell (Nat.le_refl _) _).setCell (Nat.le_refl _) _).setCell (Nat.le_refl _) _).drew
  · have HBB2 := Aside0.mk (below_step HBB.out hb2)
    have HB20 := Aside0.mk (below_step HB10.out hb2)
    have hva := out_va (q := q) h0 (by have := HLEN.out L HL.out; omega) hsm hs
    have HRES : Aside0 (toldV (out q (l ++ [0]) .val [] x) = .tuple #[.int .i64 0, faultV s, .bool true]) := ⟨by rw [← HL.out, hs]; rfl⟩
    have HP := Aside0.mk hp
    clear hb2 hs hp
    go_wp2_with fail
    with_reducible refine (faultErr g s _ HP.out hva.1 hva.2).mono ?_
    rintro e w3 ⟨rfl, hb3⟩
    have HB3 : Aside0 (Below w.heap.size w w3) := ⟨below_step HBB2.out hb3⟩
    have hsz := (below_step HB20.out hb3).size
    have hblk := ((below_step HB20.out hb3).block w.heap.size (blk_lt' (blk_new w _))).trans (blk_new w _)
    obtain ⟨c0, c1, c2, c3, c4, c5, k0, k1, k2, k3, k4, k5⟩ := six' hblk
    clear hb3 hblk
    unfold faultV
    go_upto_region 3 with (fail)
    go_region
    go_wp2_with fail
    rw [HRES.out]
    refine bodyPost_ret (v := .tuple #[.int .i64 0, .agg #[.bool true, .int .i64 s.off, .string s.msg, .bool s.atEnd, .bool (started s.va), .int .i64 (startAt s.va)], .bool true]) (by simp [results, Tryd.results34, go_sem, c0, c1, c2, c3, c4, c5]) rfl ⟨rfl, ?_⟩
    exact (((((((HB3.out.alloc HB3.out.size _).setCell (Nat.le_refl _) _).setCell (Nat.le_refl _) _).setCell (Nat.le_refl _) _).setCell (Nat.le_refl _) _).setCell (Nat.le_refl _) _).setCell (Nat.le_refl _) _).drew
set_option maxRecDepth 100000 in
set_option maxHeartbeats 8000000 in
theorem impl36 (q : ByteArray → ByteArray) (A : Option Addr) (c : Nat) (l : List Int) (x n : Int) (w : World) (hG : G q w) (hC : Kd.C (Kd.int .u8) w A l.length l) (hcap : l.length ≤ c) (hb : ∀ y, y ∈ l → 0 ≤ y ∧ y < 256) (h0 : 0 ≤ x) (h1 : x ≤ l.length) (hn : n + l.length ≤ 10000) (hn0 : 0 ≤ n) :
    Calls Tryd.prog 36 #[.slice A l.length c, .int .i64 x, .int .i64 n] w fun e w' => e = .returned (toldV (out q (l ++ [0]) .val [] x)) ∧ Below w.heap.size w w' := by
  have HI : Aside0 (∀ W, Below w.heap.size w W → Calls Tryd.prog 51 #[.slice A l.length c] W fun e w' => ∃ ad cc L, e = .returned (.slice (some ad) L.length cc) ∧ Aside0 (L = l ++ [0]) ∧ Buf w' ad cc L ∧ Below W.heap.size W w') := ⟨fun W hbl => input A c l W (Kd.C_below hC hbl) hcap hb (by omega)⟩
  have HLEN : Aside0 (∀ L, L = l ++ [0] → (L.length : Int) = l.length + 1) := ⟨fun L h => by rw [h, List.length_append]; rfl⟩
  have HG := Aside0.mk hG
  clear hC hb hG
  go_enter Tryd.func36, Tryd.ntmps36
  go_wp2_with fail
  with_reducible refine (HI.out _ (below_alloc (Below.refl _ _) _)).mono ?_
  rintro e w1 ⟨ad, cc, L, rfl, HL, hB1, hb1⟩
  have hsm := hB1.small
  have HB1 := Aside0.mk hB1
  have HBB := Aside0.mk (below_step (below_alloc (Below.refl _ w) _) hb1)
  have HB10 := Aside0.mk hb1
  clear hB1 hb1
  go_wp2_with fail
  with_reducible refine (door63 q ad cc L x n _ (HG.out.below HBB.out) HB1.out h0 (by have := HLEN.out L HL.out; omega) (by have := HLEN.out L HL.out; omega) hn0).mono ?_
  rintro e w2 ⟨hb2, ⟨d, hd, rfl⟩ | ⟨s, v, hs, ⟨g, rfl, hp⟩, rfl⟩⟩
  · have HBB2 := Aside0.mk (below_step HBB.out hb2)
    have HB20 := Aside0.mk (below_step HB10.out hb2)
    have HRES : Aside0 (toldV (out q (l ++ [0]) .val [] x) = .tuple #[.int .i64 d, noFault, .bool true]) := ⟨by rw [← HL.out, hd]; rfl⟩
    clear hb2 hd
    go_wp2_with fail
    with_reducible refine (faultNil _).mono ?_
    rintro e w3 ⟨rfl, hb3⟩
    have HB3 : Aside0 (Below w.heap.size w w3) := ⟨below_step HBB2.out hb3⟩
    have hsz := (below_step HB20.out hb3).size
    have hblk := ((below_step HB20.out hb3).block w.heap.size (blk_lt' (blk_new w _))).trans (blk_new w _)
    obtain ⟨c0, c1, c2, c3, c4, c5, k0, k1, k2, k3, k4, k5⟩ := six' hblk
    clear hb3 hblk
    unfold noFault
    go_upto_region 3 with (fail)
    go_region
    go_wp2_with fail
    rw [HRES.out]
    refine bodyPost_ret (v := .tuple #[.int .i64 d, .agg #[.bool false, .int .i64 0, .string ByteArray.empty, .bool false, .bool false, .int .i64 0], .bool true]) (by simp [results, Tryd.results36, go_sem, c0, c1, c2, c3, c4, c5]) rfl ⟨rfl, ?_⟩
    exact (((((((HB3.out.alloc HB3.out.size _).setCell (Nat.le_refl _) _).setCell (Nat.le_refl _) _).setCell (Nat.le_refl _) _).setCell (Nat.le_refl _) _).setCell (Nat.le_refl _) _).setCell (Nat.le_refl _) _).drew
  · have HBB2 := Aside0.mk (below_step HBB.out hb2)
    have HB20 := Aside0.mk (below_step HB10.out hb2)
    have hva := out_va (q := q) h0 (by have := HLEN.out L HL.out; omega) hsm hs
    have HRES : Aside0 (toldV (out q (l ++ [0]) .val [] x) = .tuple #[.int .i64 0, faultV s, .bool true]) := ⟨by rw [← HL.out, hs]; rfl⟩
    have HP := Aside0.mk hp
    clear hb2 hs hp
    go_wp2_with fail
    with_reducible refine (faultErr g s _ HP.out hva.1 hva.2).mono ?_
    rintro e w3 ⟨rfl, hb3⟩
    have HB3 : Aside0 (Below w.heap.size w w3) := ⟨below_step HBB2.out hb3⟩
    have hsz := (below_step HB20.out hb3).size
    have hblk := ((below_step HB20.out hb3).block w.heap.size (blk_lt' (blk_new w _))).trans (blk_new w _)
    obtain ⟨c0, c1, c2, c3, c4, c5, k0, k1, k2, k3, k4, k5⟩ := six' hblk
    clear hb3 hblk
    unfold faultV
    go_upto_region 3 with (fail)
    go_region
    go_wp2_with fail
    rw [HRES.out]
    refine bodyPost_ret (v := .tuple #[.int .i64 0, .agg #[.bool true, .int .i64 s.off, .string s.msg, .bool s.atEnd, .bool (started s.va), .int .i64 (startAt s.va)], .bool true]) (by simp [results, Tryd.results36, go_sem, c0, c1, c2, c3, c4, c5]) rfl ⟨rfl, ?_⟩
    exact (((((((HB3.out.alloc HB3.out.size _).setCell (Nat.le_refl _) _).setCell (Nat.le_refl _) _).setCell (Nat.le_refl _) _).setCell (Nat.le_refl _) _).setCell (Nat.le_refl _) _).setCell (Nat.le_refl _) _).drew
theorem one_out (q : ByteArray → ByteArray) : out q ([91, 49, 93] ++ [0]) .val [] 0 = .done 3 := by kernel_rfl
set_option maxRecDepth 100000 in
set_option maxHeartbeats 4000000 in
theorem works (q : ByteArray → ByteArray) (w : World) (hG : G q w) : Calls Tryd.prog 22 #[] w fun e w' => e = .returned (.bool true) ∧ Below w.heap.size w w' := by
  have hcv : Sem.run Tryd.prog (convert 22 22 (.slice (some ⟨w.heap.size, 0, none⟩) 3 3)) (w.alloc (.cells #[.int .u8 91, .int .u8 49, .int .u8 93] 5)) = .ok (.slice (some ⟨w.heap.size, 0, none⟩) 3 3) (w.alloc (.cells #[.int .u8 91, .int .u8 49, .int .u8 93] 5 (3, 4))) := _root_.Go.Joins.run_convert_bytes_const_at (P := Tryd.prog) w 22 5 #[.int .u8 91, .int .u8 49, .int .u8 93] 3 3 w.heap.size rfl Tryd.underlying22 Tryd.underlying5
  have HI : Aside0 (Calls Tryd.prog 34 #[.slice (some ⟨w.heap.size, 0, none⟩) 3 3, .int .i64 0, .int .i64 0] (w.alloc (.cells #[.int .u8 91, .int .u8 49, .int .u8 93] 5 (3, 4))) fun e w' => e = .returned (.tuple #[.int .i64 3, .agg #[.bool false, .int .i64 0, .string ByteArray.empty, .bool false, .bool false, .int .i64 0], .bool true]) ∧ Below (w.alloc (.cells #[.int .u8 91, .int .u8 49, .int .u8 93] 5 (3, 4))).heap.size (w.alloc (.cells #[.int .u8 91, .int .u8 49, .int .u8 93] 5 (3, 4))) w') := ⟨by
    have hr : ReadsInt (w.alloc (.cells #[.int .u8 91, .int .u8 49, .int .u8 93] 5 (3, 4))) .u8 (some ⟨w.heap.size, 0, none⟩) 3 [91, 49, 93] := ⟨rfl, by decide, fun _ => ⟨_, rfl, fun j hj => by
      rw [add_plain, World.cell?_alloc_mark]
      obtain rfl | rfl | rfl : j = 0 ∨ j = 1 ∨ j = 2 := by omega
      all_goals rfl⟩⟩
    have h := impl34 q (some ⟨w.heap.size, 0, none⟩) 3 [91, 49, 93] 0 0 (w.alloc (.cells #[.int .u8 91, .int .u8 49, .int .u8 93] 5 (3, 4))) (hG.below (below_alloc (Below.refl _ _) _)) (Kd.C_of_reads (d := (0 : Int)) (h1 := fun _ => rfl) hr) (by decide) (by decide) (by decide) (by decide) (by decide) (by decide)
    rw [one_out] at h
    exact h⟩
  clear hG
  go_enter Tryd.func22, Tryd.ntmps22
  go_wp2_with fail
  with_reducible refine HI.out.mono ?_
  rintro e w1 ⟨rfl, hb⟩
  have HB := Aside0.mk (below_step (below_alloc (Below.refl _ w) _) hb)
  clear hb
  go_wp2_with fail
  go_ret
  exact ⟨rfl, below_alloc HB.out _⟩
end Go.Proofs.YtfkagnpdapkaaaaDoor.Err
