/- FnValid: bytes are one value exactly where the reference says so. -/
import Derived.Test.YtfkagnpdapkaaaaDoorFaultW
namespace Go.Proofs.YtfkagnpdapkaaaaDoor.Err
open Go.RowKit Go.Proofs.YtfkagnpdapkaaaaDoorW.PrintWords Go.Proofs.YtfkagnpdapkaaaaDoorW.PrintLast Go.Proofs.YtfkagnpdapkaaaaDoorW.PrintMore
open Go.Proofs.YtfkagnpdapkaaaaDoor.Dig Go.Proofs.YtfkagnpdapkaaaaDoor.Tab Go.Proofs.YtfkagnpdapkaaaaDoor.QF
set_option linter.unusedVariables false
section
variable {q : ByteArray → ByteArray}
theorem endR_none (q : ByteArray → ByteArray) (L : List Int) (j : Int) : (endR q L j).isNone = decide (j = (L.length : Int) - 1) := by
  unfold endR
  by_cases h : j = (L.length : Int) - 1
  · rw [if_pos h, decide_eq_true h]; rfl
  · rw [if_neg h, decide_eq_false h]; rfl
set_option maxRecDepth 100000 in
set_option maxHeartbeats 4000000 in
theorem valid61 (ad : Addr) (c : Nat) (L : List Int) (w : World) (hG : G q w) (hB : Buf w ad c L) :
    Calls Tryd.prog 61 #[.slice (some ad) L.length c] w fun e w' => ∃ r, InsR q L r ∧ e = .returned (.bool r.isNone) ∧ Below w.heap.size w w' := by
  have hsm := hB.small
  have hpos := hB.pos
  obtain ⟨x, hr, hc⟩ := skipWs hB 0 (Int.le_refl _) (by omega)
  have hx0 := hr.le
  have hx1 := hr.lt
  have HC := Aside0.mk hc
  have HR := Aside0.mk hr
  have HV : Aside0 (∀ m, Calls Tryd.prog 86 #[.slice (some ad) L.length c, .int .i64 x, .int .i64 0] (w.drewN m) (Told (out q L .val [] x) (w.drewN m))) := ⟨fun m => skipValue q (gramSaid q) ad c L x 0 _ (hG.drewN m) (hB.drewN m) (by omega) hx1 (by omega) (Int.le_refl _)⟩
  have HB := Aside0.mk hB
  clear hc hr hG hB
  go_enter Tryd.func61, Tryd.ntmps61
  go_wp2_with fail
  with_reducible refine HC.out.mono ?_
  rintro e w1 ⟨rfl, ⟨m, rfl⟩⟩
  go_wp2_with fail
  with_reducible refine (HV.out _).mono ?_
  rintro e w2 ⟨hb, ⟨d, hd, rfl⟩ | ⟨s, v, hs, ⟨g, rfl, hp⟩, rfl⟩⟩
  · have hb2 := belowD hb
    have hdr := out_range (q := q) hx0 hx1 hd
    obtain ⟨j, hrun, hv⟩ := skipWs (HB.out.below hb2) d (by omega) (by omega)
    have HRES : Aside0 (InsR q L (endR q L j)) := ⟨x, HR.out, .inr ⟨d, j, hd, by omega, hrun, rfl⟩⟩
    have HV2 := Aside0.mk hv
    have HB2 := Aside0.mk hb2
    have HN := Aside0.mk (endR_none q L j)
    clear hb hb2 hd hdr hrun hv
    by_cases hj : j = (L.length : Int) - 1
    · have e1 : (j == (L.length : Int) - 1) = true := by rw [hj]; simp
      have HN2 : Aside0 ((endR q L j).isNone = true) := ⟨by rw [HN.out, decide_eq_true hj]⟩
      clear hj
      go_wp2_with fail
      with_reducible refine HV2.out.mono ?_
      rintro e w3 ⟨rfl, ⟨n, rfl⟩⟩
      go_wp2_with fail
      go_ret
      exact ⟨_, HRES.out, by rw [HN2.out]; rfl, pw_below_drewN HB2.out _⟩
    · have e1 : (j == (L.length : Int) - 1) = false := beq_eq_false_iff_ne.mpr hj
      have HN2 : Aside0 ((endR q L j).isNone = false) := ⟨by rw [HN.out, decide_eq_false hj]⟩
      clear hj
      go_wp2_with fail
      with_reducible refine HV2.out.mono ?_
      rintro e w3 ⟨rfl, ⟨n, rfl⟩⟩
      go_wp2_with fail
      go_ret
      exact ⟨_, HRES.out, by rw [HN2.out]; rfl, pw_below_drewN HB2.out _⟩
  · have HRES : Aside0 (InsR q L (some s)) := ⟨x, HR.out, .inl ⟨s, hs, rfl⟩⟩
    have HB2 := Aside0.mk (belowD hb)
    clear hb hp hs
    go_wp2_with fail
    go_ret
    exact ⟨some s, HRES.out, rfl, HB2.out⟩
set_option maxRecDepth 100000 in
set_option maxHeartbeats 4000000 in
theorem valid33 (A : Option Addr) (c : Nat) (l : List Int) (w : World) (hG : G q w) (hC : Kd.C (Kd.int .u8) w A l.length l) (hcap : l.length ≤ c) (hb : ∀ y, y ∈ l → 0 ≤ y ∧ y < 256) (hl : l.length ≤ 10000) :
    Calls Tryd.prog 33 #[.slice A l.length c] w fun e w' => e = .returned (.bool (ff q l .val [] 0).isNone) ∧ Below w.heap.size w w' := by
  have HI := Aside0.mk (input A c l w hC hcap hb hl)
  have HG := Aside0.mk hG
  clear hC hb hG
  go_enter Tryd.func33, Tryd.ntmps33
  go_wp2_with fail
  with_reducible refine HI.out.mono ?_
  rintro e w1 ⟨ad, cc, L, rfl, HL, hB1, hb1⟩
  have HSE := Aside0.mk (valid61 (q := q) ad cc L w1 (HG.out.below hb1) hB1)
  have HT : Aside0 (Txt (l ++ [0])) := ⟨by have := hB1.txt; rw [HL.out] at this; exact this⟩
  have HBB := Aside0.mk hb1
  clear hB1 hb1
  go_wp2_with fail
  with_reducible refine HSE.out.mono ?_
  rintro e w2 ⟨r, hr, rfl, hb2⟩
  rw [HL.out] at hr
  have hn : r.isNone = (ff q l .val [] 0).isNone := by
    rcases ins_ff HT.out hr with ⟨h1, rfl⟩ | ⟨k, e, m, s, h1, rfl, _⟩
    · rw [h1]; rfl
    · rw [h1]; rfl
  have HN := Aside0.mk hn
  have HB2 := Aside0.mk (below_step HBB.out hb2)
  clear hr hn hb2
  go_wp2_with fail
  go_ret
  exact ⟨by rw [← HN.out]; rfl, HB2.out⟩
set_option maxRecDepth 100000 in
set_option maxHeartbeats 4000000 in
theorem validLaw (A : Option Addr) (c : Nat) (l : List Int) (w : World) (hG : G q w) (hC : Kd.C (Kd.int .u8) w A l.length l) (hcap : l.length ≤ c) (hb : ∀ y, y ∈ l → 0 ≤ y ∧ y < 256) (hm : l.length ≤ maxLen) :
    Calls Tryd.prog 8 #[.slice A l.length c] w fun e w' => e = .returned (.bool true) ∧ Below w.heap.size w w' := by
  unfold maxLen at hm
  by_cases z1 : (l.length : Int) > 2147483647
  · clear hC hb hG
    go_enter Tryd.func8, Tryd.ntmps8
    go_wp2_with fail
    go_ret
    exact ⟨rfl, Below.refl _ _⟩
  by_cases z2 : (l.length : Int) > 10000
  · clear hC hb hG
    go_enter Tryd.func8, Tryd.ntmps8
    go_wp2_with fail
    go_ret
    exact ⟨rfl, Below.refl _ _⟩
  have HV := Aside0.mk (valid33 A c l w hG hC hcap hb (by omega))
  have HF : Aside0 (∀ W, Below w.heap.size w W → Calls Tryd.prog 30 #[.slice A l.length c] W fun e w' => e = .returned (.bool (ff q l .val [] 0).isNone) ∧ Below W.heap.size W w') := ⟨fun W hW => isValue A c l W (hG.below hW) (Kd.C_below hC hW) hcap hb (by omega)⟩
  generalize (ff q l .val [] 0).isNone = B at HV HF
  clear hC hb hG
  go_enter Tryd.func8, Tryd.ntmps8
  go_wp2_with fail
  with_reducible refine HV.out.mono ?_
  rintro e w1 ⟨rfl, hb1⟩
  have HB1 := Aside0.mk hb1
  clear hb1
  go_wp2_with fail
  with_reducible refine (HF.out _ HB1.out).mono ?_
  rintro e w2 ⟨rfl, hb2⟩
  have HB2 := Aside0.mk (below_step HB1.out hb2)
  clear hb2
  go_wp2_with fail
  go_ret
  exact ⟨by simp, HB2.out⟩
end
theorem valid_walk (a0 : Option Addr) (len0 cap0 : Nat) (z0 : List Int) (w : World) (w0 : (a0 = none ∧ len0 = 0 ∧ cap0 = 0 ∧ z0 = []) ∨ ∃ x, a0 = some x ∧ len0 ≤ cap0 ∧ cap0 ≤ maxLen ∧ z0.length = cap0 ∧ (∀ i, i < z0.length → w.cell? (x.add i) = some (.int .u8 (z0.getD i 0))) ∧ ∀ n ∈ z0, (Lit.int .u8 n).wf = true) (y0 : len0 * 1 ≤ 140737488351232) (hG : G Laid.goQ w) :
    Calls Tryd.prog 8 #[.slice a0 len0 cap0] w fun e w' => e = .returned (.bool true) ∧ Below w.heap.size w w' := by
  obtain ⟨l0, rfl, hr0, hm0, hw0, hc0⟩ := ReadsInt.ofRowC w0
  exact validLaw _ _ l0 w hG (Kd.C_of_reads (d := (0 : Int)) (h1 := fun _ => rfl) hr0) hc0 (fun x hx => by have := bytes_of l0 hw0 x hx; omega) hm0
end Go.Proofs.YtfkagnpdapkaaaaDoor.Err
