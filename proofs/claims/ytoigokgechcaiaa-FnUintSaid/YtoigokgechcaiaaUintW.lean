/- The package's ParseUint: the bytes are laid into an array of its own, with noughts behind them, and read there as digits; its contract over the contracts of ParseDigits and TwentyDigits. -/
import Derived.Test.YtoigokgechcaiaaQDg2
import Derived.Laws.CopyOwn
import Derived.Outline
namespace Go.Proofs.Ytoigokgechcaiaa.Hand
open Go.RowKit Go.Proofs.Ytoigokgechcaiaa.QDg Go.Proofs.YtoigokgechcaiaaW.PrintWords Go.Proofs.YtoigokgechcaiaaW.PrintLast Go.Proofs.YtoigokgechcaiaaW.PrintMore
set_option linter.unusedVariables false
/-- The bytes with noughts behind them, 21 in all. -/
def pad (l : List Int) : List Int := l ++ List.replicate (21 - l.length) 0
def uint.f (k : Nat) (l : List Int) : Option (Int × Bool) :=
  if l.length = 0 ∨ 20 < l.length then some (0, false) else
  (gojsonnum_ParseDigits.f k (pad l) 0).bind fun b => if b.2.1 = (l.length : Int) then (if b.2.2 = 20 then gojsonnum_TwentyDigits.f k (pad l) 0 else some (b.1, true)) else some (0, false)
theorem uint.mono : ∀ a0 k, LeO (uint.f k a0) (uint.f (k + 1) a0) := by
  intro a0 k
  unfold uint.f
  refine LeO.ite (LeO.refl _) (LeO.bind (gojsonnum_ParseDigits.mono _ _ _) fun _ => LeO.ite (LeO.ite (gojsonnum_TwentyDigits.mono _ _ _) (LeO.refl _)) (LeO.refl _))
theorem C_cells {k : IntKind} {w : World} {A : Option Addr} {n : Nat} {l : List Int} (h : Kd.C (Kd.int k) w A n l) (hn : 0 < n) :
    ∃ ad, A = some ad ∧ ∀ j p, l[j]? = some p → w.cell? (ad.add j) = some (.int k p) := by
  obtain ⟨ad, e, hc⟩ := h.2.2 hn
  refine ⟨ad, e, fun j p hj => ?_⟩
  obtain ⟨c, _, rfl, h⟩ := hc j p hj
  have := h 0 (.int k p) rfl
  rwa [show (Kd.int k).sz = 1 from rfl, Nat.mul_one, Nat.add_zero] at this
theorem C_of_block {k : IntKind} {w : World} {g t : Nat} {l : List Int} (h : w.heap[g]? = some (.cells (nums k l).toArray t (0, 0))) (hl : l.length ≤ 9223372036854775807) : Kd.C (Kd.int k) w (some ⟨g, 0, none⟩) l.length l := by
  refine ⟨rfl, hl, fun _ => ⟨_, rfl, fun j p hj => ⟨[.int k p], rfl, rfl, fun i u hu => ?_⟩⟩⟩
  have hi : i = 0 := by
    have := (List.getElem?_eq_some_iff.1 hu).1
    simpa using this
  subst hi
  have hu' : Value.int k p = u := by simpa using hu
  subst hu'
  rw [show (Kd.int k).sz = 1 from rfl, Nat.mul_one, Nat.add_zero, add_plain]
  simp only [World.cell?, h]
  simp [nums, hj]
theorem splice_pad (l : List Int) (h : l.length ≤ 20) : splice (List.replicate 21 (Value.int .u8 0)) 0 (nums .u8 l) = nums .u8 (pad l) := by
  unfold splice pad
  rw [nums_append, nums_length]
  rw [List.take_zero, List.nil_append, Nat.zero_add, List.drop_replicate]
  congr 1
  unfold nums
  rw [List.map_replicate]
theorem info5 : (Try.prog.info? 5).map (·.size) = some 1 := by kernel_rfl
set_option maxHeartbeats 1000000 in
theorem uint.calls (k : Nat) (A0 : Option Addr) (c0 : Nat) (l0 : List Int) (r1 : Int) (r2 : Bool) (w : World) (hr0 : Kd.C (Kd.int .u8) w A0 l0.length l0) (hc0 : l0.length ≤ c0) (h : uint.f k l0 = some (r1, r2)) :
    Calls Try.prog 27 #[.slice A0 l0.length c0] w fun e w' => e = .returned (.tuple #[.int .u64 r1, .bool r2]) ∧ Below w.heap.size w w' := by
  have HR0 := Aside0.mk hr0
  clear hr0
  have H := Aside0.mk h
  clear h
  by_cases h1 : l0.length = 0 ∨ 20 < l0.length
  · have h2 := H.out
    unfold uint.f at h2
    rw [if_pos h1] at h2
    simp only [Option.some.injEq, Prod.mk.injEq] at h2
    obtain ⟨rfl, rfl⟩ := h2
    rcases h1 with h1 | h1
    · have b1 : ((l0.length : Int) == 0) = true := beq_iff_eq.mpr (by omega)
      have b2 : l0 = [] := List.length_eq_zero_iff.1 h1
      subst b2
      go_enter Try.func27, Try.ntmps27
      go_wp2
      go_ret2
      exact ⟨rfl, Below.refl _ _⟩
    · have b1 : ((l0.length : Int) == 0) = false := beq_eq_false_iff_ne.mpr (by omega)
      have b2 : ¬ (l0 = []) := fun h => by rw [h] at h1; simp at h1
      have b3 : (20 < (l0.length : Int)) = True := eq_true (by omega)
      go_enter Try.func27, Try.ntmps27
      go_wp2
      go_ret2
      exact ⟨rfl, Below.refl _ _⟩
  · have hlo : 0 < l0.length := by omega
    have hhi : l0.length ≤ 20 := by omega
    have H2 := H.out
    unfold uint.f at H2
    rw [if_neg h1] at H2
    replace H2 := Option.bind_eq_some_iff.mp H2
    obtain ⟨⟨u, en, dg⟩, hP, hR⟩ := H2
    have HP := Aside0.mk hP
    have HRR := Aside0.mk hR
    clear hP hR h1 H
    have b1 : ((l0.length : Int) == 0) = false := beq_eq_false_iff_ne.mpr (by omega)
    have b2 : ¬ (l0 = []) := fun h => by rw [h] at hlo; simp at hlo
    obtain ⟨ad, rfl, hcell⟩ := C_cells HR0.out hlo
    have HC := Aside0.mk hcell
    clear hcell
    go_enter Try.func27, Try.ntmps27
    go_wp2_with (with_reducible refine wpList_copy_splice rfl (.tmp 16) (.tmp 17) 27 27 rfl 5 Try.underlying27 info5 _ _ 21 21 l0.length c0 rfl rfl w.heap.size 0 (List.replicate 21 (.int .u8 0)) 40 ?c1 (nums .u8 l0) ?c2 ?c3 ?c4 ?c5 w.heap.size w ?c6 (Nat.le_refl _) ?c7)
    case c2 => rw [nums_length]; exact (Nat.min_eq_left (by omega)).symm
    case c3 =>
      intro _ j v hj
      simp only [nums, List.getElem?_map, Option.map_eq_some_iff] at hj
      obtain ⟨p, hp, rfl⟩ := hj
      have hcj := HC.out j p hp
      rw [World.cell?_alloc_lt _ _ _ (World.block_lt_of_cell? w _ hcj)]
      exact hcj
    case c4 => rw [nums_length]; omega
    case c5 => intro v hv; simp only [nums, List.mem_map] at hv; obtain ⟨_, _, rfl⟩ := hv; rfl
    case c6 => exact (Below.refl _ _).alloc (Nat.le_refl _) _
    case c7 =>
      intro w1 hg1 hb1
      have hlen : (pad l0).length = 21 := by unfold pad; rw [List.length_append, List.length_replicate]; omega
      have hblk : w1.heap[w.heap.size]? = some (.cells (nums .u8 (pad l0)).toArray 40 (0, 0)) := by
        have h2 : w1.heap[w.heap.size]? = some (.cells (splice (List.replicate 21 (Value.int .u8 0)) 0 (nums .u8 l0)).toArray 40 (0, 0)) := hg1.out
        rw [h2, splice_pad l0 hhi]
      have hC := C_of_block hblk (by rw [hlen]; decide)
      have hcall := gojsonnum_ParseDigits.calls k (some ⟨w.heap.size, 0, none⟩) 21 (pad l0) 0 u en dg w1 hC (by omega) HP.out
      have hcall2 := fun w2 (hd : Drawn0 w1 w2) (h20 : uint.f k l0 = gojsonnum_TwentyDigits.f k (pad l0) 0) (h : uint.f k l0 = some (r1, r2)) => gojsonnum_TwentyDigits.calls k (some ⟨w.heap.size, 0, none⟩) 21 (pad l0) 0 r1 r2 w2 (Kd.C_below hC hd.below) (by omega) (h20.symm.trans h)
      rw [hlen] at hcall hcall2
      have HCALL := Aside0.mk hcall
      have HB1 := Aside0.mk hb1
      have hR := HRR.out
      have hu : uint.f k l0 = some (r1, r2) := by
        unfold uint.f
        rw [if_neg (by omega), HP.out]
        exact hR
      by_cases c1 : en = (l0.length : Int)
      · rw [if_pos c1] at hR
        by_cases c2 : dg = 20
        · rw [if_pos c2] at hR
          have h20 : uint.f k l0 = gojsonnum_TwentyDigits.f k (pad l0) 0 := by rw [hu, hR]
          have HC2 := Aside0.mk (fun w2 hd => hcall2 w2 hd h20 hu)
          have f1 : ((en : Int) != (l0.length : Int)) = false := by simp [c1]
          have f2 : ((dg : Int) == 20) = true := by simp [c2]
          clear hcall hcall2 hblk hg1 hC hb1 HC HR0 HRR hR h20 hu c1 c2 HP
          go_wp2_with fail
          refine HCALL.out.mono ?_
          rintro e w2 ⟨rfl, ⟨n, rfl⟩⟩
          go_wp2_with fail
          refine (HC2.out _ ⟨_, rfl⟩).mono ?_
          rintro e w3 ⟨rfl, ⟨m, rfl⟩⟩
          go_wp2
          go_ret2
          exact ⟨rfl, pw_below_drewN HB1.out _⟩
        · rw [if_neg c2] at hR
          simp only [Option.some.injEq, Prod.mk.injEq] at hR
          obtain ⟨rfl, rfl⟩ := hR
          have f1 : ((en : Int) != (l0.length : Int)) = false := by simp [c1]
          have f2 : ((dg : Int) == 20) = false := by simp [c2]
          clear hcall hcall2 hblk hg1 hC hb1 HC HR0 HRR hu c1 c2 HP
          go_wp2_with fail
          refine HCALL.out.mono ?_
          rintro e w2 ⟨rfl, ⟨n, rfl⟩⟩
          go_wp2
          go_ret2
          exact ⟨rfl, pw_below_drewN HB1.out _⟩
      · rw [if_neg c1] at hR
        simp only [Option.some.injEq, Prod.mk.injEq] at hR
        obtain ⟨rfl, rfl⟩ := hR
        have f1 : ((en : Int) != (l0.length : Int)) = true := by simp [c1]
        clear hcall hcall2 hblk hg1 hC hb1 HC HR0 HRR hu c1 HP
        go_wp2_with fail
        refine HCALL.out.mono ?_
        rintro e w2 ⟨rfl, ⟨n, rfl⟩⟩
        go_wp2
        go_ret2
        exact ⟨rfl, pw_below_drewN HB1.out _⟩
    case c1 => first | exact blk_new w _ | exact (Array.getElem?_eq_some_iff.1 (blk_new w _)).2
end Go.Proofs.Ytoigokgechcaiaa.Hand
