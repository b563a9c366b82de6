/- FnIsNumber: bytes are one number just where the longest number that begins them is all of them. -/
import Derived.Test.YtoigokgechcaiaaDoorNumTrans
import Derived.Test.YtoigokgechcaiaaDoorNumAcc
import Derived.Test.YtoigokgechcaiaaDoorNumP
import Derived.Test.YtoigokgechcaiaaDoorQIs1
namespace Go.Proofs.YtoigokgechcaiaaDoor.Dig
open Go.RowKit Go.Proofs.YtoigokgechcaiaaDoorW.PrintWords Go.Proofs.YtoigokgechcaiaaDoorW.PrintLast Go.Proofs.YtoigokgechcaiaaDoorW.PrintMore Go.Proofs.YtoigokgechcaiaaDoor.QNm Go.Proofs.YtoigokgechcaiaaDoor.QIs
set_option linter.unusedVariables false
theorem del_le (s : Nat) (c : Int) : del s c ≤ 9 := by
  unfold del
  split <;> (repeat' split) <;> omega
theorem flat_del (s c : Nat) (hc : c < 256) : flatF (s * 256 + c) = (del s (c : Int) * 256 : Nat) := by
  unfold flatF tblF
  rw [show (s * 256 + c) / 256 = s by omega, show (s * 256 + c) % 256 = c by omega]
  omega
set_option maxRecDepth 100000 in
set_option maxHeartbeats 4000000 in
theorem isValid (A : Option Addr) (c : Nat) (l : List Int) (w : World) (hA : Acc w) (hC : Kd.C (Kd.int .u8) w A l.length l) (hcap : l.length ≤ c) (hb : Bytes l) (hl : l.length ≤ 1000) :
    Calls Tryd.prog 17 #[.slice A l.length c] w fun e w' => e = .returned (.bool (acc l 0 0)) ∧ Below w.heap.size w w' := by
  have z41 := zero41
  have HT := Aside0.mk (transitions w)
  have HI : Aside0 ((Tryd.prog.info? 41).map (·.size) = some (cellsOf .u16 flatF).size) := ⟨by rw [cellsOf_size]; kernel_rfl⟩
  have H1 : Aside0 ((cellsOf .u16 flatF).all (·.oneCell') = true) := ⟨by
    rw [Array.all_eq_true]
    intro i hi
    have h := cellsOf_get .u16 flatF i (by rw [cellsOf_size] at hi; exact hi)
    rw [Array.getElem?_eq_getElem hi] at h
    rw [Option.some.inj h]
    rfl⟩
  have HA := Aside0.mk hA
  have HC := Aside0.mk hC
  have HBY := Aside0.mk hb
  clear hA hC hb
  go_enter Tryd.func17, Tryd.ntmps17
  go_wp2_with fail
  with_reducible refine HT.out.mono ?_
  rintro e w1 ⟨rfl, hb1⟩
  have HB1 := Aside0.mk hb1
  clear hb1 HT
  go_upto_region 2 with (refine wpList_store_row rfl 41 (.tmp 3) (.tmp 7) rfl w1.heap.size (cellsOf .u16 flatF) rfl rfl 41 (cellsOf .u16 fun _ => 0) (blk_new w1 _) HI.out (by rw [cellsOf_size, cellsOf_size]) H1.out ?_)
  clear z41
  have hk0 : Blk ((w1.alloc (.cells (cellsOf .u16 fun _ => 0) 41)).setRow w1.heap.size (cellsOf .u16 flatF)) w1.heap.size .u16 41 flatF := setRow_heap _ _ _ _ _ _ (blk_new w1 _)
  have hb0 := below_setRow (cellsOf .u16 flatF) (below_alloc HB1.out (.cells (cellsOf .u16 fun _ => 0) 41)) HB1.out.size
  generalize (w1.alloc (Obj.cells (cellsOf .u16 fun _ => 0) 41)).setRow w1.heap.size (cellsOf .u16 flatF) = wc at hk0 hb0 ⊢
  have HK := Aside0.mk hk0
  have HBW := Aside0.mk hb0
  clear hk0 hb0
  · clear HI H1
    go_wp2_with fail
    go_loopg [4, 10] (l.length + 1) (fun kq v4 v10 w' => ∃ (x y : Int), v4 = .int .u16 x ∧ v10 = .int .i64 y ∧ Aside0 (∃ i s : Nat, y = i ∧ x = (s * 256 : Nat) ∧ i ≤ l.length ∧ i + kq = l.length + 1 ∧ s ≤ 9 ∧ acc l 0 0 = acc l i s) ∧ Drawn0 wc w')
    case atStart => exact ⟨0, 0, rfl, rfl, ⟨0, 0, rfl, rfl, by omega, by omega, by omega, rfl⟩, Drawn0.refl _⟩
    case round =>
      obtain ⟨x, y, rfl, rfl, HQ, ⟨m1, rfl⟩⟩ := hrel
      obtain ⟨i, s, rfl, rfl, hi, hk, hs, ha⟩ := HQ.out
      clear HQ
      by_cases hlt : i < l.length
      · obtain _ | g0 := gk
        · exfalso; omega
        obtain ⟨ad, hA2, hx⟩ := Kd.at_int (Kd.C_below HC.out HBW.out) (i : Int) (by omega) (by omega)
        have hr := rd_mem HBY.out i
        obtain ⟨b, hbe⟩ := Int.eq_ofNat_of_zero_le hr.1
        have hb : b < 256 := by omega
        rw [hbe] at hx
        rw [Int.toNat_natCast] at hx
        obtain ⟨c0, c1⟩ := HK.out.cell (s * 256 + b) (by omega)
        rw [flat_del s b hb] at c0
        have HN : Aside0 (acc l 0 0 = acc l (i + 1) (del s (b : Int)) ∧ del s (b : Int) ≤ 9) := ⟨by rw [ha, acc_step hlt, hbe], del_le _ _⟩
        generalize del s (b : Int) = s' at c0 HN
        subst hA2
        clear ha hr hbe
        go_wp2_with fail
        go_roundg g0
        case measure => omega
        case rel => exact ⟨_, _, rfl, rfl, ⟨i + 1, s', by omega, by omega, by omega, by omega, HN.out.2, HN.out.1⟩, by repeat (first | exact Drawn0.refl _ | apply Drawn0.step)⟩
      · have HN : Aside0 (acc l 0 0 = okS s) := ⟨by rw [ha, acc_end (by omega)]⟩
        have hcell := (HA.out.below HBW.out).tab s (by omega)
        have hdiv : ((s * 256 : Nat) : Int) / 256 = s := by omega
        clear ha
        go_wp2_with fail
        go_ret
        exact ⟨by rw [HN.out]; rfl, by repeat (first | exact HBW.out | apply pw_below_drewN)⟩
set_option maxRecDepth 100000 in
theorem impl9 (A : Option Addr) (c : Nat) (l : List Int) (w : World) (hA : Acc w) (hC : Kd.C (Kd.int .u8) w A l.length l) (hcap : l.length ≤ c) (hb : Bytes l) (hl : l.length ≤ 1000) :
    Calls Tryd.prog 9 #[.slice A l.length c] w fun e w' => e = .returned (.bool (decide (scanNum l = (l.length, 0)))) ∧ Below w.heap.size w w' := by
  have HV := Aside0.mk (isValid A c l w hA hC hcap hb hl)
  clear hA hC hb
  go_enter Tryd.func9, Tryd.ntmps9
  go_wp2_with fail
  with_reducible refine HV.out.mono ?_
  rintro e w1 ⟨rfl, hb1⟩
  have HB1 := Aside0.mk hb1
  clear hb1
  go_wp2_with fail
  go_ret
  exact ⟨by rw [← dfa_scan]; rfl, HB1.out⟩
end Go.Proofs.YtoigokgechcaiaaDoor.Dig
