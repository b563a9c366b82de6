/- The thin package's doors: a text as an input, what is told of an error. -/
import Derived.Test.YtfkagnpdapkaaaaDoorUse
import Derived.Test.YtfkagnpdapkaaaaDoorRun
import Derived.Laws.CopyOwn
import Derived.Deep.RegionHeld3
namespace Go.Proofs.YtfkagnpdapkaaaaDoor.Err
open Go.RowKit Go.Proofs.YtfkagnpdapkaaaaDoorW.PrintWords Go.Proofs.YtfkagnpdapkaaaaDoorW.PrintLast Go.Proofs.YtfkagnpdapkaaaaDoorW.PrintMore
open Go.Proofs.YtfkagnpdapkaaaaDoor.Dig Go.Proofs.YtfkagnpdapkaaaaDoor.Tab Go.Proofs.YtfkagnpdapkaaaaDoor.QF
set_option linter.unusedVariables false
theorem nums_cell {l : List Int} {v : Value} (h : v ∈ nums .u8 l) : v.oneCell' = true := by
  unfold nums at h
  obtain ⟨x, _, rfl⟩ := List.mem_map.1 h
  rfl
theorem copy_src {w : World} {A : Option Addr} {l : List Int} {O : Obj} {g : Nat} (hC : Kd.C (Kd.int .u8) w A l.length l) : 0 < (nums .u8 l).length → some (⟨g, 0, none⟩ : Addr) = some ⟨g, 0, none⟩ ∧ ∃ ad, A = some ad ∧ ∀ j v, (nums .u8 l)[j]? = some v → (w.alloc O).cell? (ad.add j) = some v := by
  intro h
  rw [nums_length] at h
  obtain ⟨ad, e, _⟩ := Kd.at_int hC 0 (by omega) (by omega)
  refine ⟨rfl, ad, e, fun j v hv => ?_⟩
  unfold nums at hv
  rw [List.getElem?_map] at hv
  obtain ⟨x, hx, rfl⟩ := Option.map_eq_some_iff.1 hv
  have hj : j < l.length := (List.getElem?_eq_some_iff.1 hx).1
  obtain ⟨ad', e', hc⟩ := Kd.at_int (Kd.C_below hC (below_alloc (Below.refl _ _) O)) (j : Int) (by omega) (by omega)
  rw [e] at e'
  cases e'
  rw [Int.toNat_natCast] at hc
  rw [hc]
  congr 2
  obtain ⟨_, e2⟩ := rd_get l (j : Int) (by omega) (by omega)
  rw [e2]
  simp only [Int.toNat_natCast]
  rw [List.getElem?_eq_getElem hj] at hx
  exact Option.some.inj hx
theorem buf_made {w w1 : World} {l : List Int} (hb : ∀ x, x ∈ l → 0 ≤ x ∧ x < 256) (hl : l.length ≤ 10000) (h : w1.heap[w.heap.size]? = some (.cells (splice (madeCells #[Value.int IntKind.u8 0] (l.length + 1)).toList 0 (nums .u8 l)).toArray 5 (0, 0))) : Buf w1 ⟨w.heap.size, 0, none⟩ (l.length + 1) (l ++ [0]) := by
  have hm : (madeCells #[Value.int IntKind.u8 0] (l.length + 1)).toList = nums .u8 (List.replicate (l.length + 1) 0) := by
    apply List.ext_getElem
    · simp [nums, madeCells]
    · intro i h1 h2
      simp [nums, madeCells, Nat.mod_one]
  have hs : splice (madeCells #[Value.int IntKind.u8 0] (l.length + 1)).toList 0 (nums .u8 l) = nums .u8 (l ++ [0]) := by
    rw [hm]
    unfold splice
    rw [List.take_zero, List.nil_append, nums_length, Nat.zero_add, nums_append]
    congr 1
    unfold nums
    rw [← List.map_drop, List.drop_replicate]
    simp
  rw [hs] at h
  have hlen : (l ++ [(0 : Int)]).length = l.length + 1 := by rw [List.length_append]; rfl
  have ho : w1.ownsRow w.heap.size 5 1 (.slice (some ⟨w.heap.size, 0, none⟩) (l.length + 1) (l.length + 1)) (l.length + 1) (nums .u8 (l ++ [0])) :=
    ⟨by rw [nums_length, hlen]; omega, .inr ⟨w.heap.size, l.length + 1, _, rfl, Nat.le_refl _, h, Nat.le_refl _, by unfold maxLen; omega, by rw [List.size_toArray, nums_length, hlen]; omega, by
      rw [List.take_of_length_le]
      rw [nums_length, hlen]; omega⟩⟩
  obtain ⟨A, c, e, hr⟩ := own_reads ho
  cases e
  have hR : Kd.C (Kd.int .u8) w1 (some ⟨w.heap.size, 0, none⟩) (l ++ [0]).length (l ++ [0]) := by
    rw [hlen]
    exact Kd.C_of_reads (d := (0 : Int)) (h1 := fun _ => rfl) hr
  refine ⟨hR, by omega, fun x hx => ?_, by omega, by omega, ?_⟩
  · rcases List.mem_append.1 hx with hx | hx
    · exact hb x hx
    · rw [List.mem_singleton] at hx
      subst hx
      decide
  · rw [hlen]
    have := rd_last l 0
    rw [show ((l.length + 1 : Nat) : Int) - 1 = (l.length : Int) by omega]
    exact this
set_option maxRecDepth 100000 in
set_option maxHeartbeats 4000000 in
theorem newInput (A : Option Addr) (c : Nat) (l : List Int) (w : World) (hC : Kd.C (Kd.int .u8) w A l.length l) (hcap : l.length ≤ c) (hb : ∀ x, x ∈ l → 0 ≤ x ∧ x < 256) (hl : l.length ≤ 10000) :
    Calls Tryd.prog 75 #[.slice A l.length c] w fun e w' => ∃ ad cc, e = .returned (.slice (some ad) (l ++ [0]).length cc) ∧ Buf w' ad cc (l ++ [0]) ∧ Below w.heap.size w w' := by
  have HC := Aside0.mk hC
  have HBY := Aside0.mk hb
  obtain ⟨m, hm⟩ : ∃ m, m = l.length + 1 := ⟨_, rfl⟩
  have hmc : (l.length : Int) + 1 = (m : Int) := by omega
  have HMK := print_make (P := Tryd.prog) 22 5 .u8 1 Tryd.underlying22 (by kernel_rfl) (by omega) m (by omega)
  have HM := Aside0.mk hm
  have hlm : l.length ≤ m ∧ m ≤ 10001 := by omega
  clear hC hb hm
  go_enter Tryd.func75, Tryd.ntmps75
  go_wp2_with ((with_reducible refine gate_builtin (b := .copy) (xs := #[.tmp 8, .tmp 9]) rfl ?_); refine wpList_copy_splice rfl (.tmp 8) (.tmp 9) 22 22 rfl 5 Tryd.underlying22 (by kernel_rfl) (some ⟨w.heap.size, 0, none⟩) A m m l.length c rfl rfl w.heap.size 0 (madeCells #[Value.int IntKind.u8 0] m).toList 5 ?hg (nums .u8 l) ?hn ?hpos ?hfit ?h1 w.heap.size w ?hb (Nat.le_refl _) ?_; (case hg => exact blk_new w _); (case hn => rw [nums_length]; exact (Nat.min_eq_left hlm.1).symm); (case hpos => exact copy_src HC.out); (case hfit => rw [nums_length]; simp [size_madeCells]; omega); (case h1 => intro v hv; exact nums_cell hv); (case hb => exact below_alloc (Below.refl _ _) _); intro w1 hw1 hb1; have HW1 := Aside0.mk hw1; have HB1 := Aside0.mk hb1; clear hw1 hb1)
  go_ret
  have hm := HM.out
  subst hm
  refine ⟨⟨w.heap.size, 0, none⟩, l.length + 1, by rw [List.length_append]; rfl, ?_, HB1.out⟩
  exact buf_made HBY.out hl HW1.out
theorem pt_cells {w : World} {g : Nat} {s : SE} (h : PT w g s) : w.cell? ⟨g, 0, none⟩ = some (.string s.msg) ∧ w.cell? ⟨g, 1, none⟩ = some (.int .i64 s.off) ∧ w.cell? ⟨g, 2, none⟩ = some (.bool s.atEnd) ∧ w.cell? ⟨g, 3, none⟩ = some (.int .i64 s.va) := by
  unfold PT at h
  refine ⟨?_, ?_, ?_, ?_⟩ <;> simp [World.cell?, h]
set_option maxRecDepth 100000 in
theorem ta (g : Nat) (W : World) : Sem.run Tryd.prog (Instr.typeAssert (.iface 86 (.pointer (some ⟨g, 0, none⟩))) 68 86 true) W = .ok (.tuple #[.pointer (some ⟨g, 0, none⟩), .bool true]) W := by
  rfl
set_option maxRecDepth 100000 in
theorem errorText (g : Nat) (m : ByteArray) (w : World) (h0 : w.cell? ⟨g, 0, none⟩ = some (.string m)) : Calls Tryd.prog 71 #[.pointer (some ⟨g, 0, none⟩)] w fun e w' => e = .returned (.string m) ∧ w = w' := by
  go_enter Tryd.func71, Tryd.ntmps71
  go_wp2
  go_ret
  exact ⟨rfl, rfl⟩
set_option maxRecDepth 100000 in
theorem errorAtEnd (g : Nat) (b : Bool) (w : World) (h2 : w.cell? ⟨g, 2, none⟩ = some (.bool b)) : Calls Tryd.prog 72 #[.iface 86 (.pointer (some ⟨g, 0, none⟩))] w fun e w' => e = .returned (.bool b) ∧ w = w' := by
  have hta := ta g
  go_enter Tryd.func72, Tryd.ntmps72
  go_wp2
  go_ret
  exact ⟨rfl, rfl⟩
/-- The place of a byte that begins no value, as it is told. -/
def startAt (va : Int) : Int := if va = 0 then 0 else va - 1
def started (va : Int) : Bool := va != 0
set_option maxRecDepth 100000 in
theorem errorStart (g : Nat) (va : Int) (w : World) (h3 : w.cell? ⟨g, 3, none⟩ = some (.int .i64 va)) (hv : 0 ≤ va) (hv2 : va ≤ 20000) : Calls Tryd.prog 73 #[.iface 86 (.pointer (some ⟨g, 0, none⟩))] w fun e w' => e = .returned (.tuple #[.int .i64 (startAt va), .bool (started va)]) ∧ w = w' := by
  have hta := ta g
  by_cases hz : va = 0
  · subst hz
    go_enter Tryd.func73, Tryd.ntmps73
    go_wp2
    go_ret2
    exact ⟨rfl, rfl⟩
  · have f1 : (va == 0) = false := beq_eq_false_iff_ne.mpr hz
    have e1 : startAt va = va - 1 := if_neg hz
    have e2 : started va = true := bne_iff_ne.mpr hz
    rw [e1, e2]
    clear e1 e2 hz
    go_enter Tryd.func73, Tryd.ntmps73
    go_wp2
    go_ret2
    exact ⟨rfl, rfl⟩
def noFault : Value := .agg #[.bool false, .int .i64 0, .string ByteArray.empty, .bool false, .bool false, .int .i64 0]
/-- What is told of a fault. -/
def faultV (s : SE) : Value := .agg #[.bool true, .int .i64 s.off, .string s.msg, .bool s.atEnd, .bool (started s.va), .int .i64 (startAt s.va)]
set_option maxRecDepth 100000 in
set_option maxHeartbeats 4000000 in
theorem faultNil (w : World) : Calls Tryd.prog 49 #[.nilIface] w fun e w' => e = .returned (.tuple #[noFault, .bool true]) ∧ Below w.heap.size w w' := by
  go_enter Tryd.func49, Tryd.ntmps49
  go_wp2
  refine bodyPost_ret (v := .tuple #[noFault, .bool true]) (by unfold noFault; simp [results, Tryd.results49, go_sem]; rfl) rfl ⟨rfl, ?_⟩
  repeat (first | exact below_alloc (Below.refl _ _) _ | (refine Below.setCell ?_ (Nat.le_refl _) _))
set_option maxRecDepth 100000 in
set_option maxHeartbeats 4000000 in
theorem faultErr (g : Nat) (s : SE) (w : World) (h : PT w g s) (hv : 0 ≤ s.va) (hv2 : s.va ≤ 20000) : Calls Tryd.prog 49 #[.iface 86 (.pointer (some ⟨g, 0, none⟩))] w fun e w' => e = .returned (.tuple #[faultV s, .bool true]) ∧ Below w.heap.size w w' := by
  have hlt := blk_lt' h
  obtain ⟨h0, h1, h2, h3⟩ := pt_cells h
  have H := Aside0.mk h
  have hta := ta g
  clear h
  go_enter Tryd.func49, Tryd.ntmps49
  go_upto_region 6 with (fail)
  go_region_held3 (fun w' => w'.cell? ⟨g, 0, none⟩ = some (.string s.msg) ∧ w'.cell? ⟨g, 1, none⟩ = some (.int .i64 s.off) ∧ w'.cell? ⟨g, 2, none⟩ = some (.bool s.atEnd) ∧ w'.cell? ⟨g, 3, none⟩ = some (.int .i64 s.va)) (go_keep) (first | (go_at_call 71; refine (errorText g s.msg _ ?_).mono ?_; (simp [*]); rintro e w' ⟨rfl, rfl⟩) | (go_at_call 72; refine (errorAtEnd g s.atEnd _ ?_).mono ?_; (simp [*]); rintro e w' ⟨rfl, rfl⟩))
  all_goals
    rename_i hS
    obtain ⟨k0, k1, k2, k3⟩ := hS
    have K3 := Aside0.mk k3
    clear k0 k1 k2 k3
    go_wp2_with fail
    with_reducible refine (errorStart g s.va _ K3.out hv hv2).mono ?_
    rintro e w' ⟨rfl, rfl⟩
    go_wp2_with fail
    refine bodyPost_ret (v := .tuple #[faultV s, .bool true]) (by unfold faultV; simp [results, Tryd.results49, go_sem]) rfl ⟨rfl, ?_⟩
    exact (below_alloc (below_alloc (Below.refl _ _) _) _).drew
set_option maxRecDepth 100000 in
theorem input (A : Option Addr) (c : Nat) (l : List Int) (w : World) (hC : Kd.C (Kd.int .u8) w A l.length l) (hcap : l.length ≤ c) (hb : ∀ x, x ∈ l → 0 ≤ x ∧ x < 256) (hl : l.length ≤ 10000) :
    Calls Tryd.prog 51 #[.slice A l.length c] w fun e w' => ∃ ad cc L, e = .returned (.slice (some ad) L.length cc) ∧ Aside0 (L = l ++ [0]) ∧ Buf w' ad cc L ∧ Below w.heap.size w w' := by
  have HI := Aside0.mk (newInput A c l w hC hcap hb hl)
  clear hC hb
  go_enter Tryd.func51, Tryd.ntmps51
  go_wp2_with fail
  with_reducible refine HI.out.mono ?_
  rintro e w' ⟨ad, cc, rfl, hB, hb⟩
  obtain ⟨L, hL⟩ : ∃ L, L = l ++ [0] := ⟨_, rfl⟩
  rw [← hL] at hB ⊢
  have HL := Aside0.mk hL
  have HB := Aside0.mk hB
  have HBB := Aside0.mk hb
  clear hB hb hL
  go_wp2_with fail
  go_ret
  exact ⟨ad, cc, L, rfl, HL, HB.out, HBB.out⟩
end Go.Proofs.YtfkagnpdapkaaaaDoor.Err
