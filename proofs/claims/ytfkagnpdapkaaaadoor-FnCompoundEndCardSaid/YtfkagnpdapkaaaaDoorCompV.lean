/- The scan for the bracket that closes another: a block of 64 bytes at a time. -/
import Derived.Test.YtfkagnpdapkaaaaDoorScM
namespace Go.Proofs.YtfkagnpdapkaaaaDoor.Err
open Go.RowKit Go.Proofs.YtfkagnpdapkaaaaDoorW.PrintWords Go.Proofs.YtfkagnpdapkaaaaDoorW.PrintLast Go.Proofs.YtfkagnpdapkaaaaDoorW.PrintMore
open Go.Proofs.YtfkagnpdapkaaaaDoor.Dig Go.Proofs.YtfkagnpdapkaaaaDoor.Tab Go.Proofs.YtfkagnpdapkaaaaDoor.QF Go.Proofs.YtfkagnpdapkaaaaDoor.Bit
attribute [local go_sem] max2_int min2_int max_two min_two max_three min_three max_four min_four   -- for this text's walks alone
set_option linter.unusedVariables false
theorem W_lowv (v : Nat) (hv : v < 64) : IntKind.u64.wrap (IntKind.u64.wrap (2 ^ v) - 1) = Bit.W fun i => decide (i < v) := by
  have hlt : 2 ^ v < 2 ^ 64 := Nat.pow_lt_pow_right (by decide) hv
  have hp := Nat.two_pow_pos v
  rw [← W_low v hv, IntKind.wrap_u64, IntKind.wrap_u64, show (2 : Int) ^ v = ((2 ^ v : Nat) : Int) by simp]
  omega
/-- A bracket's place in a block, in the numbers that the scan reckons with. -/
theorem at_small (f m i v len : Nat) (lim : Int) (h1 : (f : Int) + m + 64 ≤ len) (h2 : len ≤ 10001) (h3 : i < v) (h4 : v ≤ 64) (h5 : lim - (f + m) < 64 ∧ lim - (f + m) = v ∨ 64 ≤ lim - (f + m) ∧ v = 64) :
    wrap64 ((f : Int) + m + i) = f + m + i ∧ wrap64 ((f : Int) + m + i + 1) = f + m + i + 1 ∧ (f : Int) + ((m + i : Nat) : Int) < lim ∧ (f : Int) + ((m + i : Nat) : Int) + 1 = f + m + i + 1 := by
  refine ⟨by unfold wrap64; omega, by unfold wrap64; omega, by omega, by omega⟩
theorem put4 {w : World} {b : Nat} {v0 v1 v2 v3 : Value} {t : TypeId} (h : w.heap[b]? = some (.cells #[v0, v1, v2, v3] t (0, 0))) (u0 u1 u2 u3 : Value) :
    ((((w.setCell ⟨b, 0, none⟩ u0).setCell ⟨b, 1, none⟩ u1).setCell ⟨b, 2, none⟩ u2).setCell ⟨b, 3, none⟩ u3).heap[b]? = some (.cells #[u0, u1, u2, u3] t (0, 0)) := by
  have h1 := heap_setCell_same w b 0 _ t u0 h
  have h2 := heap_setCell_same _ b 1 _ t u1 h1
  have h3 := heap_setCell_same _ b 2 _ t u2 h2
  have h4 := heap_setCell_same _ b 3 _ t u3 h3
  simpa using h4
set_option maxRecDepth 100000 in
set_option maxHeartbeats 8000000 in
theorem scan (ad : Addr) (c : Nat) (L : List Int) (fr : Int) (b n : Nat) (lim : Int) (w0 w : World) (hB : Buf w0 ad c L) (hGL : Glob w0) (hbw : Below w0.heap.size w0 w) (hb0 : w0.heap.size ≤ b) (hcap : c = L.length) (hf : 0 ≤ fr) (hlt : fr + n < lim) (hl : lim ≤ L.length) (hlive : Live (from_ L fr) n)
    (hs : ScB w b (dS (from_ L fr) n) (iS (from_ L fr) n) (eS (from_ L fr) n)) :
    Calls Tryd.prog 82 #[.pointer (some ⟨b, 0, none⟩), .slice (some ad) L.length c, .int .i64 (fr + n), .int .i64 lim] w (CompAns L fr b n lim w0) := by
  subst hcap
  have hsm := hB.small
  have HSB : Aside0 (∀ l1 : Int, fr + n < l1 → l1 ≤ lim → Calls Tryd.prog 104 #[.pointer (some ⟨b, 0, none⟩), .slice (some ad) L.length L.length, .int .i64 (fr + n), .int .i64 l1] w (CompAns L fr b n l1 w0)) := ⟨fun l1 h1 h2 => scanBytes ad L.length L fr b n l1 w0 w hB hbw hb0 hf (by omega) (by omega) hlive hs⟩
  have HB := Aside0.mk hB
  have HGL := Aside0.mk hGL
  have h16 : wrap64 (fr + n + 16) = fr + n + 16 := by unfold wrap64; omega
  clear hB hGL hbw hlive hs
  go_enter Tryd.func82, Tryd.ntmps82
  go_upto_region 1 with (fail)
  go_cut [2, 10] from 34 to 45 (fun v2 v10 wx => ∃ (p : Int) (f : Bool), v2 = .int .i64 p ∧ v10 = .bool f ∧ Aside0 (Below w0.heap.size w0 wx) ∧ Aside0 ((f = true ∧ ∃ m : Nat, n ≤ m ∧ fr + m < lim ∧ ShutAt (from_ L fr) m ∧ p = fr + m + 1) ∨ (f = false ∧ ∃ m : Nat, n ≤ m ∧ p = fr + m ∧ p ≤ lim ∧ Live (from_ L fr) m ∧ ScB wx b (dS (from_ L fr) m) (iS (from_ L fr) m) (eS (from_ L fr) m))))
  case first =>
    go_wp2_with fail
    all_goals
      with_reducible refine (HSB.out _ (by omega) (by omega)).mono ?_
      rintro e w1 ⟨hb1, ⟨m, h1, h2, h3, rfl⟩ | ⟨m, h1, h2, h3, h4, rfl⟩⟩
      · have HBW := Aside0.mk hb1
        have HSH := Aside0.mk h3
        clear hb1 h3
        go_wp2_with fail
        go_meet
        case rel => exact ⟨fr + m + 1, true, rfl, rfl, HBW, ⟨.inl ⟨rfl, m, h1, by omega, HSH.out, rfl⟩⟩⟩
      · have HBW := Aside0.mk hb1
        have HLV := Aside0.mk h3
        have HS := Aside0.mk h4
        clear hb1 h3 h4
        go_wp2_with fail
        go_meet
        case rel => exact ⟨fr + m, false, rfl, rfl, HBW, ⟨.inr ⟨rfl, m, h1, rfl, by omega, HLV.out, HS.out⟩⟩⟩
  case rest =>
    obtain ⟨p, f, rfl, rfl, HBW, HST⟩ := hcut
    clear HSB h16
    rcases HST.out with ⟨rfl, hm⟩ | ⟨rfl, m, h1, rfl, h3, h4, h5⟩
    · clear HST
      have HM := Aside0.mk hm
      clear hm
      go_wp2_with fail
      go_ret2
      obtain ⟨m, h1, h2, h3, h4⟩ := HM.out
      exact ⟨HBW.out, .inl ⟨m, h1, by omega, h3, by rw [h4]; rfl⟩⟩
    obtain ⟨c0, c1, c2, f0, f1, f2⟩ := h5.cells
    have HLV := Aside0.mk h4
    have HS := Aside0.mk h5
    obtain ⟨e, he⟩ : ∃ e, e = eS (from_ L fr) m := ⟨_, rfl⟩
    obtain ⟨i, hi⟩ : ∃ i, i = iS (from_ L fr) m := ⟨_, rfl⟩
    rw [← he] at c2
    rw [← hi] at c1
    have HE := Aside0.mk he
    have HI := Aside0.mk hi
    clear h4 h5 HST he hi
    have HCS : Aside0 (n ≤ m ∧ i = iS (from_ L fr) m ∧ e = eS (from_ L fr) m) := ⟨h1, HI.out, HE.out⟩
    clear HE HI h1
    go_upto_if 55 with (fail)
    go_cut [12] from 56 to 59 (fun v12 wx => v12 = .int .u64 (sI i) ∧ wx = wc)
    case first =>
      cases i
      all_goals
        go_wp2_with fail
        go_meet
        case rel => exact ⟨rfl, rfl⟩
    case rest =>
      obtain ⟨rfl, rfl⟩ := hcut
      go_upto_if 59 with (fail)
      go_cut [13] from 60 to 62 (fun v13 wx => v13 = .int .u64 (sE e) ∧ wx = wc)
      case first =>
        cases e
        all_goals
          go_wp2_with fail
          go_meet
          case rel => exact ⟨rfl, rfl⟩
      case rest =>
        obtain ⟨rfl, rfl⟩ := hcut
        clear c0 c1 c2 f0 f1 f2
        go_wp2_with fail
        go_loopg [2, 11, 12, 13] (L.length + 1) (fun kq v2 v11 v12 v13 w' => ∃ (p d si pe : Int), v2 = .int .i64 p ∧ v11 = .int .i64 d ∧ v12 = .int .u64 si ∧ v13 = .int .u64 pe ∧
          Aside0 (∃ m : Nat, n ≤ m ∧ d = dS (from_ L fr) m ∧ si = sI (iS (from_ L fr) m) ∧ pe = sE (eS (from_ L fr) m) ∧ Live (from_ L fr) m ∧ ((p = fr + m ∧ p ≤ lim) ∨ (fr + m = lim ∧ lim ≤ p ∧ p ≤ lim + 64))) ∧ Aside0 (lim + 1 ≤ p + kq) ∧ Aside0 (Below w0.heap.size w0 w') ∧ Aside0 (∃ d i e, ScB w' b d i e))
        case atStart => exact ⟨fr + m, _, _, _, rfl, rfl, rfl, rfl, ⟨m, HCS.out.1, rfl, by rw [HCS.out.2.1], by rw [HCS.out.2.2], HLV.out, .inl ⟨rfl, h3⟩⟩, ⟨by omega⟩, HBW, ⟨_, _, _, HS.out⟩⟩
        case round =>
          clear HCS HLV HBW HS h3
          obtain ⟨p, d, si, pe, rfl, rfl, rfl, rfl, HA, HK, HBW, HSX⟩ := hrel
          obtain ⟨d1, i1, e1, HS1⟩ := HSX.out
          obtain ⟨c0, c1, c2, f0, f1, f2⟩ := HS1.cells
          have HS1 := Aside0.mk HS1
          have hk := HK.out
          have hp := HA.out
          by_cases hpl : p < lim
          rotate_left
          · as_aux_lemma =>
              have HFIN : Aside0 (∃ m : Nat, n ≤ m ∧ d = dS (from_ L fr) m ∧ si = sI (iS (from_ L fr) m) ∧ pe = sE (eS (from_ L fr) m) ∧ Live (from_ L fr) m ∧ fr + m = lim) := ⟨by
                obtain ⟨m, k1, k2, k3, k4, k5, k6⟩ := HA.out
                exact ⟨m, k1, k2, k3, k4, k5, by omega⟩⟩
              clear HA hk HK
              go_wp2_with fail
              go_ret2
              obtain ⟨m, k1, k2, k3, k4, k5, k6⟩ := HFIN.out
              refine ⟨((HBW.out.setCell hb0 _).setCell hb0 _).setCell hb0 _, .inr ⟨m, k1, .inl k6, k5, ?_, by rw [k6]; rfl⟩⟩
              have h := HS1.out.put d (si != 0) (pe != 0)
              rw [k3, k4, sI_ne, sE_ne, k2] at h
              rw [k3, k4, sI_ne, sE_ne, k2]
              exact h
          obtain ⟨m, k1, k2, k3, k4, k5, k6⟩ := hp
          have hpm : p = fr + m := by omega
          subst hpm
          have hw64 : wrap64 (fr + m + 64) = fr + m + 64 := by unfold wrap64; omega
          by_cases hc64 : fr + m + 64 > L.length
          · as_aux_lemma =>
              have hsc := HS1.out.put d (si != 0) (pe != 0)
              have hcall := scanBytes ad L.length L fr b m lim w0 _ HB.out (((HBW.out.setCell hb0 (.int .i64 d)).setCell hb0 (.bool (si != 0))).setCell hb0 (.bool (pe != 0))) hb0 hf (by omega) (by omega) k5 (by rw [k3, k4, sI_ne, sE_ne, k2] at hsc; rw [k3, k4, sI_ne, sE_ne, k2]; exact hsc)
              have HCALL := Aside0.mk hcall
              clear HA hk HK k2 k3 k4 k5 k6 hsc hcall
              go_wp2_with fail
              with_reducible refine HCALL.out.mono ?_
              rintro e w4 ⟨hb4, ⟨m', h1, h2, h3, rfl⟩ | ⟨m', h1, h2, h3, h4, rfl⟩⟩
              · have HB4 := Aside0.mk hb4
                have HSH := Aside0.mk h3
                clear hb4 h3
                go_wp2_with fail
                go_ret2
                exact ⟨HB4.out, .inl ⟨m', by omega, h2, HSH.out, rfl⟩⟩
              · have HB4 := Aside0.mk hb4
                have HLV4 := Aside0.mk h3
                have HS4 := Aside0.mk h4
                clear hb4 h3 h4
                go_wp2_with fail
                go_ret2
                exact ⟨HB4.out, .inr ⟨m', by omega, .inl (by omega), HLV4.out, HS4.out, rfl⟩⟩
          clear c0 c1 c2 f0 f1 f2
          have HM := Aside0.mk (And.intro k1 (And.intro k2 (And.intro k3 (And.intro k4 k5))))
          clear HA hk k1 k2 k3 k4 k5 k6
          obtain ⟨v, hv0, hv1, hv2⟩ : ∃ v : Nat, 0 < v ∧ v ≤ 64 ∧ ((lim - (fr + m) < 64 ∧ lim - (fr + m) = v) ∨ (¬ lim - (fr + m) < 64 ∧ v = 64)) := by
            by_cases h : lim - (fr + m) < 64
            · exact ⟨(lim - (fr + m)).toNat, by omega, by omega, .inl ⟨h, by omega⟩⟩
            · exact ⟨64, by omega, by omega, .inr ⟨h, rfl⟩⟩
          obtain ⟨f', rfl⟩ := Int.eq_ofNat_of_zero_le hf
          have hlen : (L.drop (f' + m)).length = L.length - (f' + m) := List.length_drop ..
          have hfm : ((f' : Int) + m).toNat = f' + m := by omega
          have HBLK : Aside0 (∀ (W : World) (bm : Nat) (v0 v1 v2 v3 : Value), Below w0.heap.size w0 W → W.heap[bm]? = some (.cells #[v0, v1, v2, v3] 95 (0, 0)) → Calls Tryd.prog 81 #[.slice (some (ad.add (f' + m))) (L.length - (f' + m)) (L.length - (f' + m)), .pointer (some ⟨bm, 0, none⟩)] W fun e w' => e = .returned (.tuple #[]) ∧
              w'.heap[bm]? = some (.cells #[.int .u64 (Bit.W (tQ (from_ L f') m 64)), .int .u64 (Bit.W (tB (from_ L f') m 64)), .int .u64 (Bit.W (tO (from_ L f') m 64)), .int .u64 (Bit.W (tC (from_ L f') m 64))] 95 (0, 0)) ∧ ∀ n, n ≤ bm → Below n W w') := ⟨fun W bm v0 v1 v2 v3 hb hk => by
            obtain ⟨e1, e2, e3, e4⟩ := masks_at L (fun x hx => HB.out.bytes x hx) f' m (by omega)
            have h := blockWords (some (ad.add (f' + m))) (L.length - (f' + m)) (L.drop (f' + m)) bm v0 v1 v2 v3 W (buf_drop (HB.out.below hb) (f' + m) (by omega)) (by omega) (fun x hx => HB.out.bytes x (List.mem_of_mem_drop hx)) (by omega) hk
            rw [hlen, e1, e2, e3, e4] at h
            exact h⟩
          have HBWR := Aside0.mk (below_alloc HBW.out (.cells #[.int .u64 0, .int .u64 0, .int .u64 0, .int .u64 0] 95))
          go_wp2_with fail
          with_reducible refine (HBLK.out _ _ _ _ _ _ HBWR.out (blk_new wr _)).mono ?_
          rintro e w2 ⟨rfl, hk2, hb2⟩
          obtain ⟨q0, q1, q2, q3, r0, r1, r2, r3⟩ := four' hk2
          have HK2 := Aside0.mk hk2
          have HB2 := Aside0.mk hb2
          clear hk2 hb2
          go_upto_if 101 with (fail)
          go_cut [18] from 102 to 125 (fun v18 wx => Aside0 (wx.heap[wr.heap.size]? = some (.cells #[.int .u64 (Bit.W (tQ (from_ L f') m v)), .int .u64 (Bit.W (tB (from_ L f') m v)), .int .u64 (Bit.W (tO (from_ L f') m v)), .int .u64 (Bit.W (tC (from_ L f') m v))] 95 (0, 0))) ∧ Aside0 (∀ k, k ≤ wr.heap.size → Below k w2 wx))
          case first =>
            rcases hv2 with ⟨hv3, hv4⟩ | ⟨hv3, rfl⟩
            · go_wp2_with fail
              go_meet
              case rel =>
                obtain ⟨a1, a2, a3, a4⟩ := W_valid (from_ L f') m v hv1
                have hwl := W_lowv v (by omega)
                refine ⟨⟨?_⟩, ⟨fun k hk => ((((Below.refl _ _).setCell hk _).setCell hk _).setCell hk _).setCell hk _⟩⟩
                rw [hwl, W_and, W_and, W_and, W_and, a1, a2, a3, a4]
                exact put4 HK2.out _ _ _ _
            · go_wp2_with fail
              go_meet
              case rel => exact ⟨HK2, ⟨fun k _ => Below.refl _ _⟩⟩
          case rest =>
            as_aux_lemma =>
              obtain ⟨HK3, HB3⟩ := hcut
              clear q0 q1 q2 q3 r0 r1 r2 r3 HK2
              obtain ⟨q0, q1, q2, q3, r0, r1, r2, r3⟩ := four' HK3.out
              obtain ⟨k1, k2, k3, k4, k5⟩ := HM.out
              obtain ⟨x19, y19, x20, y21, x21, x22, x23, y24, z24, x24, h19, h19b, h20, h21a, h21, hadd, h24a, h24b, h24, hE, hC⟩ := esc_ints (from_ L f') m v pe k4
              obtain ⟨x25, a1, b1, a2, b2, a3, b3, a4, b4, a5, b5, a6, b6, x26, i0, i1', i2, i3, i4, i5, i6, i7, i8, i9, i10, i11, i12, i13, hI⟩ := in_ints (from_ L f') m v si x24 k3 hE
              obtain ⟨y27, x27, x28, x29, x32, o1, o2, o3, o4, hO, hCl, o5, hBr⟩ := out_ints (from_ L f') m v x24 x26 hE hI
              have HE := Aside0.mk hE
              have HC := Aside0.mk hC
              have HI := Aside0.mk hI
              have HO := Aside0.mk (And.intro hO (And.intro hCl hBr))
              clear k1 k2 k3 k4 k5 hE hC hI hO hCl hBr
              go_upto_if 150 with (simp only [hadd])
              go_cut [13] from 151 to 156 (fun v13 wx => v13 = .int .u64 (sE (eS (from_ L f') (m + v))) ∧ wx = wc)
              case first =>
                rcases hv2 with ⟨hv3, hv4⟩ | ⟨hv3, rfl⟩
                · have hst := state_esc (from_ L f') m v (by omega) x24 HE.out
                  go_wp2_with fail
                  go_meet
                  case rel => exact ⟨by first | rfl | (rw [hst]), rfl⟩
                · have hst := HC.out.trans (state_carry (from_ L f') m)
                  clear hadd
                  subst hst
                  go_wp2_with fail
                  go_meet
                  case rel => exact ⟨rfl, rfl⟩
              case rest =>
                as_aux_lemma =>
                  obtain ⟨rfl, rfl⟩ := hcut
                  have hst := state_in (from_ L f') m v hv1 x26 HI.out
                  have hcn := cnt_le (opn (from_ L f') m v) 64
                  have hcc := cnt_le (cls (from_ L f') m v) 64
                  have HON : Aside0 (∀ W, Calls Tryd.prog 106 #[.int .u64 x28] W fun e w' => e = .returned (.int .i64 (cnt (opn (from_ L f') m v) 64)) ∧ Drawn0 W w') := ⟨fun W => by rw [HO.out.1]; exact onesCount _ W⟩
                  have HCN : Aside0 (∀ W, Calls Tryd.prog 106 #[.int .u64 x29] W fun e w' => e = .returned (.int .i64 (cnt (cls (from_ L f') m v) 64)) ∧ Drawn0 W w') := ⟨fun W => by rw [HO.out.2.1]; exact onesCount _ W⟩
                  have HBK := Aside0.mk (dS_block (from_ L f') m v hv1)
                  generalize hop : cnt (opn (from_ L f') m v) 64 = no at *
                  generalize hcl : cnt (cls (from_ L f') m v) 64 = nc at *
                  have HCL := Aside0.mk hcl
                  clear hop hcl hadd
                  go_wp2_with fail
                  with_reducible refine (HON.out _).mono ?_
                  rintro e w3 ⟨rfl, ⟨m3, rfl⟩⟩
                  go_wp2_with fail
                  with_reducible refine (HCN.out _).mono ?_
                  rintro e w3 ⟨rfl, ⟨m4, rfl⟩⟩
                  have hb1 : Below w0.heap.size w0 wc := (HBWR.out.trans (HB2.out _ HBW.out.size)).trans (HB3.out _ HBW.out.size)
                  have HBC := Aside0.mk hb1
                  have HSC : Aside0 (∃ d i e, ScB wc b d i e) := ⟨by
                    obtain ⟨d', i', e', h⟩ := HSX.out
                    have hlt := blk_lt' h
                    refine ⟨d', i', e', ?_⟩
                    unfold ScB at h ⊢
                    rw [(HB3.out _ (Nat.le_refl _)).block b hlt, (HB2.out _ (Nat.le_refl _)).block b hlt, Below.heap_alloc wr _ b hlt]
                    exact h⟩
                  have hdr : -10002 ≤ d ∧ d ≤ 10002 := by have := dS_range (from_ L f') m; have := HM.out.2.1; omega
                  have hkk := HK.out
                  have wa : wrap64 ((no : Int) - nc) = no - nc := by unfold wrap64; omega
                  have wb : wrap64 (d + ((no : Int) - nc)) = d + (no - nc) := by unfold wrap64; omega
                  have HEND : Aside0 (∀ d', d' = dS (from_ L f') (m + v) → Live (from_ L f') (m + v) → ∃ m' : Nat, n ≤ m' ∧ d' = dS (from_ L f') m' ∧ sI (iS (from_ L f') (m + v)) = sI (iS (from_ L f') m') ∧ sE (eS (from_ L f') (m + v)) = sE (eS (from_ L f') m') ∧ Live (from_ L f') m' ∧
                      (((f' : Int) + m + 64 = f' + m' ∧ (f' : Int) + m + 64 ≤ lim) ∨ ((f' : Int) + m' = lim ∧ lim ≤ f' + m + 64 ∧ (f' : Int) + m + 64 ≤ lim + 64))) := ⟨fun d' h1 h2 => ⟨m + v, by have := HM.out.1; omega, h1, rfl, rfl, h2, by rcases hv2 with ⟨h3, h4⟩ | ⟨h3, rfl⟩ <;> omega⟩⟩
                  obtain _ | g0 := gk
                  · exfalso; omega
                  by_cases hcd : (nc : Int) < d
                  · as_aux_lemma =>
                      have HLV2 : Aside0 (d + ((no : Int) - nc) = dS (from_ L f') (m + v) ∧ Live (from_ L f') (m + v)) := ⟨by
                        obtain ⟨q1, q2, _, _, q5⟩ := HM.out
                        have := HBK.out
                        refine ⟨by omega, live_block _ _ _ hv1 q5 (by have := HCL.out; omega)⟩⟩
                      go_wp2_with fail
                      go_roundg g0
                      case measure => omega
                      case rel => exact ⟨f' + m + 64, _, _, _, rfl, rfl, rfl, rfl, ⟨HEND.out _ HLV2.out.1 HLV2.out.2⟩, ⟨by omega⟩, ⟨by repeat (first | exact HBC.out | apply pw_below_drewN)⟩, HSC⟩
                  · as_aux_lemma =>
                      have HBS := Aside0.mk (BrSt.start (g := from_ L f') (m := m) (v := v) HM.out.2.1 HM.out.2.2.2.2 HO.out.2.2)
                      clear hkk wa wb
                      go_wp2_with fail
                      clear h19 h19b h20 h21a h21 h24a h24b h24 i0 i1' i2 i3 i4 i5 i6 i7 i8 i9 i10 i11 i12 i13 o1 o2 o3 o4 o5 hst q0 q1 q2 q3 r0 r1 r2 r3 HCL HBK HCN HON HE HC HI HBLK
                      go_loopg [11, 32] 65 (fun kq v11 v32 w' => ∃ (d' x : Int), v11 = .int .i64 d' ∧ v32 = .int .u64 x ∧ Aside0 (∃ j, BrSt (from_ L f') m v j d' x ∧ 65 ≤ j + kq) ∧ Drawn0 wc w')
                      case atStart => exact ⟨d, x32, rfl, rfl, ⟨0, HBS.out, by omega⟩, by repeat (first | exact Drawn0.refl _ | apply Drawn0.step)⟩
                      case round =>
                        obtain ⟨d', x, rfl, rfl, HJ, ⟨m5, rfl⟩⟩ := hrel
                        obtain ⟨j, hj, hjk⟩ := HJ.out
                        have hdr2 : -10002 ≤ d' ∧ d' ≤ 10002 := by have := dS_range (from_ L f') (m + j); have := hj.dep; have := hj.le; omega
                        have hwp : wrap64 (d' + 1) = d' + 1 := by unfold wrap64; omega
                        have hwm : wrap64 (d' - 1) = d' - 1 := by unfold wrap64; omega
                        clear HJ
                        by_cases hx0 : x = 0
                        · as_aux_lemma =>
                            have HF := Aside0.mk (hj.done hv1 hx0)
                            subst hx0
                            clear hj
                            go_wp2_with fail
                            go_roundg g0
                            case measure => omega
                            case rel => exact ⟨f' + m + 64, _, _, _, rfl, rfl, rfl, rfl, ⟨HEND.out _ HF.out.1 HF.out.2⟩, ⟨by have := HK.out; omega⟩, ⟨by repeat (first | exact HBC.out | apply pw_below_drewN)⟩, HSC⟩
                        · obtain ⟨i', x', hi1, hi2, htz, hcl2, hor⟩ := hj.next hv1 hx0
                          have HTZ := Aside0.mk htz
                          have htest := W_test (opn (from_ L f') m v) i' (by omega)
                          rw [← HO.out.1] at htest
                          have f0 : (x != 0) = true := bne_iff_ne.mpr hx0
                          obtain _ | g1 := gk
                          · exfalso; have := hj.le; omega
                          rcases hor with ⟨ho, hn⟩ | ⟨ho, hs, hn⟩
                          · as_aux_lemma =>
                              have HN := Aside0.mk hn
                              rw [ho] at htest
                              clear hj hn htz ho hx0
                              go_wp2_with fail
                              with_reducible refine (tz64.calls x i' _ (HGL.out.below ?b) HTZ.out).mono ?_
                              case b => exact (by repeat (first | exact HBC.out | apply pw_below_drewN))
                              rintro e w5 ⟨rfl, ⟨m6, rfl⟩⟩
                              go_wp2_with fail
                              go_roundg g1
                              case measure => omega
                              case rel => exact ⟨d' + 1, x', rfl, rfl, ⟨i' + 1, HN.out, by omega⟩, by repeat (first | exact Drawn0.refl _ | apply Drawn0.step)⟩
                          · by_cases hd0 : d' - 1 = 0
                            · as_aux_lemma =>
                                have HSH := Aside0.mk (hs hd0)
                                rw [ho] at htest
                                have f1 : (d' - 1 == 0) = true := beq_iff_eq.mpr hd0
                                obtain ⟨hwi, hwi2, hwl, hwe⟩ := at_small f' m i' v L.length lim hc64 hsm hi1 hv1 hv2
                                have HNM := Aside0.mk (And.intro (show n ≤ m + i' from Nat.le_trans HM.out.1 (Nat.le_add_right _ _)) (And.intro hwl hwe))
                                clear hj hn hs htz ho hx0 hd0 hdr2 hwp hwl hwe
                                go_wp2_with fail
                                with_reducible refine (tz64.calls x i' _ (HGL.out.below ?b) HTZ.out).mono ?_
                                case b => exact (by repeat (first | exact HBC.out | apply pw_below_drewN))
                                rintro e w5 ⟨rfl, ⟨m6, rfl⟩⟩
                                go_upto_region 59 with (fail)
                                have HWI : Aside0 ((f' : Int) + ((m + i' : Nat) : Int) + 1 = wrap64 (wrap64 ((f' : Int) + m + i') + 1)) := ⟨by rw [hwi, hwi2]; exact HNM.out.2.2⟩
                                clear hwi hwi2 hfm hlen hw64 hv2 hc64 hpl f0 hcl2 htest hdr hsm hlt hl hcn hcc hi1 hi2
                                go_wp2_with fail
                                go_ret2
                                refine ⟨by repeat (first | exact HBC.out | apply pw_below_drewN), .inl ⟨m + i', HNM.out.1, HNM.out.2.1, HSH.out, ?_⟩⟩
                                rw [HWI.out]
                                rfl
                            · as_aux_lemma =>
                                have HN := Aside0.mk (hn hd0)
                                have f1 : (d' - 1 == 0) = false := beq_eq_false_iff_ne.mpr hd0
                                rw [ho] at htest
                                clear hj hn hs htz ho hx0 hd0
                                go_wp2_with fail
                                with_reducible refine (tz64.calls x i' _ (HGL.out.below ?b) HTZ.out).mono ?_
                                case b => exact (by repeat (first | exact HBC.out | apply pw_below_drewN))
                                rintro e w5 ⟨rfl, ⟨m6, rfl⟩⟩
                                go_wp2_with fail
                                go_roundg g1
                                case measure => omega
                                case rel => exact ⟨d' - 1, x', rfl, rfl, ⟨i' + 1, HN.out, by omega⟩, by repeat (first | exact Drawn0.refl _ | apply Drawn0.step)⟩
end Go.Proofs.YtfkagnpdapkaaaaDoor.Err
