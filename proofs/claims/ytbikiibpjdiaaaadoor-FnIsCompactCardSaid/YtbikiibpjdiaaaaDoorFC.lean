/- What is written goes into a row that the call owns: append of bytes or of a string, in a walk's list and in a region that draws. -/
import Derived.Test.YtbikiibpjdiaaaaDoorFB
import Derived.Deep.AppendSrc
import Derived.Deep.RegionLaw
import Derived.Maps.AppendAt
import Derived.Test.YtbikiibpjdiaaaaDoorFA
import Derived.Test.YtbikiibpjdiaaaaDoorQN1
import Derived.Test.YtbikiibpjdiaaaaDoorQN2
import Derived.Test.YtbikiibpjdiaaaaDoorEscE
import Derived.Test.YtbikiibpjdiaaaaDoorQF1
namespace Go.Proofs.YtbikiibpjdiaaaaDoor.Err
open Go.RowKit Go.Proofs.YtbikiibpjdiaaaaDoorW.PrintWords Go.Proofs.YtbikiibpjdiaaaaDoorW.PrintLast Go.Proofs.YtbikiibpjdiaaaaDoorW.PrintMore
open Go.Proofs.YtbikiibpjdiaaaaDoor.Tab
set_option linter.unusedVariables false
/-- A row of bytes of the call's own. -/
abbrev Own (N : Nat) (w : World) (v : Value) (xs : List Int) : Prop := w.ownsRow N 5 1 v xs.length (nums .u8 xs)
/-- All that has turned is the row, and what is new; the row lies where it lay, or is new. -/
def Grew (w : World) (v : Value) (w' : World) (v' : Value) : Prop := w.grownBy w' v.ownBlock ∧ (v'.ownBlock = v.ownBlock ∨ ∃ k, v'.ownBlock = some k ∧ w.heap.size ≤ k)
theorem Grew.refl (w : World) (v : Value) : Grew w v w v := ⟨⟨rfl, rfl, rfl, Nat.le_refl _, fun _ _ _ => rfl⟩, .inl rfl⟩
theorem Grew.trans {a b c : World} {u v x : Value} (h : Grew a u b v) (k : Grew b v c x) : Grew a u c x := by
 obtain ⟨g1, h1⟩ := h
 obtain ⟨g2, h2⟩ := k
 refine ⟨⟨g2.os.trans g1.os, g2.tape.trans g1.tape, g2.output.trans g1.output, Nat.le_trans g1.size g2.size, fun i hi hne => ?_⟩, ?_⟩
 ·refine (g2.block i (Nat.lt_of_lt_of_le hi g1.size) ?_).trans (g1.block i hi hne)
  rcases h1 with h1 | ⟨m, h1, hm⟩
  ·rw [h1]; exact hne
  ·rw [h1]; intro e; cases e; omega
 ·rcases h2 with h2 | ⟨m, h2, hm⟩
  ·rw [h2]; exact h1
  ·exact .inr ⟨m, h2, Nat.le_trans g1.size hm⟩
theorem Grew.alloc {w w' : World} {v v' : Value} (h : Grew w v w' v') (o : Obj) : Grew w v (w'.alloc o) v' := h.trans ⟨World.grownBy_alloc w' o _, .inl rfl⟩
theorem Grew.drewN {w w' : World} {v v' : Value} (h : Grew w v w' v') (n : Nat) : Grew w v (w'.drewN n) v' := ⟨⟨h.1.os, h.1.tape, h.1.output, h.1.size, h.1.block⟩, h.2⟩
theorem Grew.drew {w w' : World} {v v' : Value} (h : Grew w v w' v') : Grew w v w'.drew v' := ⟨⟨h.1.os, h.1.tape, h.1.output, h.1.size, h.1.block⟩, h.2⟩
theorem Grew.below {w w' : World} {v : Value} (h : Below w.heap.size w w') : Grew w v w' v := ⟨grown_of_below h _, .inl rfl⟩
theorem Grew.size {w w' : World} {v v' : Value} (h : Grew w v w' v') : w.heap.size ≤ w'.heap.size := h.1.size
theorem Own.grew_far {N : Nat} {w w' : World} {v v' u : Value} {xs : List Int} (h : Own N w u xs) (hg : Grew w v w' v') (hne : u.ownBlock = none ∨ u.ownBlock ≠ v.ownBlock) : Own N w' u xs := h.kept hg.1 hne
theorem Own.move {N : Nat} {w w' : World} {v : Value} {xs : List Int} (h : Own N w v xs) (hb : Below w.heap.size w w') : Own N w' v xs := h.kept (grown_of_below hb none) (by cases hv : v.ownBlock <;> simp)
theorem nums_one {k : IntKind} (xs : List Int) : ∀ u ∈ nums k xs, u.oneCell' = true := fun u hu => by
 obtain ⟨_, _, rfl⟩ := List.mem_map.1 hu
 rfl
/-- What is appended: bytes behind an address. -/
theorem src_slice {w : World} {a : Addr} {m c : Nat} {ys : List Int} (hm : m = ys.length) (hc : ∀ j u, (nums .u8 ys)[j]? = some u → w.cell? (a.add j) = some u) : Src Tryd.prog 1 22 (.slice (some a) m c) ys.length (nums .u8 ys) w := by
 subst hm
 exact Src.ofSlice w (e' := 5) Tryd.underlying22 a _ c _ (by rw [nums_length, Nat.mul_one]) hc (nums_one _)
theorem src_none {w : World} (c : Nat) : Src Tryd.prog 1 22 (.slice none 0 c) ([] : List Int).length (nums .u8 []) w := Src.ofNil w (e' := 5) Tryd.underlying22 c
/-- A string's bytes. -/
def sb (s : ByteArray) : List Int := s.data.toList.map fun b => (b.toNat : Int)
theorem sb_len (s : ByteArray) : (sb s).length = s.size := by unfold sb; rw [List.length_map, Array.length_toList]; rfl
theorem src_str {w : World} (s : ByteArray) : Src Tryd.prog 1 9 (.string s) (sb s).length (nums .u8 (sb s)) w := by
 have h := Src.ofString (P := Tryd.prog) w (tx := 9) Tryd.underlying9 s
 have e : nums .u8 (sb s) = byteCells s := by unfold nums sb byteCells; rw [List.map_map]; rfl
 rw [sb_len, e]
 exact h
section
variable {N : Nat} {w : World} {v x : Value} {xs ys : List Int} {tx : TypeId}
theorem nums_app (k : IntKind) (a b : List Int) : nums k (a ++ b) = nums k a ++ nums k b := by unfold nums; rw [List.map_append]
theorem infoB : (Tryd.prog.info? 5).map (fun i => (i.zero, i.size, i.bytes)) = some (some (.int .u8 0), 1, 1) := by kernel_rfl
/-- append onto a row of the call's own, of whatever bytes. -/
theorem run_app (ty : TypeId) (hown : Own N w v xs) (hs : Src Tryd.prog 1 tx x ys.length (nums .u8 ys) w) (hb : xs.length + ys.length ≤ 70368744177664) (hN : N ≤ w.heap.size) :
  ∃ v' w', (Builtin.append_ #[22, tx] ty #[v, x]).run Tryd.prog w = .ok v' w' ∧ Own N w' v' (xs ++ ys) ∧ Grew w v w' v' := by
 obtain ⟨i0, hi, hz, hsz, hby⟩ := info_parts infoB
 have ht := Tryd.underlying22
 have hlen : (nums .u8 (xs ++ ys)).length = xs.length + ys.length := by rw [nums_length, List.length_append]
 have hxl : (xs ++ ys).length = xs.length + ys.length := List.length_append
 have hn1 := nums_length (k := .u8) xs
 have hn2 := nums_length (k := .u8) ys
 have grown : ∀ (old : Nat), old < xs.length + ys.length → 
   Own N (w.drew.alloc (.cells ((nums .u8 xs ++ nums .u8 ys).toArray ++ Builtin.zeroCells (Value.int .u8 0).cells (grownCap w (xs.length + ys.length) old 5 - (xs.length + ys.length))) 5)) (.slice (some ⟨w.heap.size, 0, none⟩) (xs.length + ys.length) (grownCap w (xs.length + ys.length) old 5)) (xs ++ ys) := by
  intro old ho
  have hge := grownCap_ge w (xs.length + ys.length) old 5
  have hcm : grownCap w (xs.length + ys.length) old 5 ≤ maxLen := grownCap_le_maxLen w (xs.length + ys.length) old 5 (by unfold maxLen; omega)
  refine ⟨by rw [hlen, hxl, Nat.mul_one], .inr ⟨w.heap.size, _, _, by rw [hxl], hN, heap_alloc_new w.drew _, by rw [hxl]; exact hge, hcm, ?_, ?_⟩⟩
  ·have e1 : (Value.int .u8 0).cells.size = 1 := rfl
   simp only [Array.size_append, List.size_toArray, size_zeroCells, List.length_append, hn1, hn2, e1]
   omega
  ·simp only [Array.toList_append, nums_app]
   rw [hxl, Nat.mul_one]
   exact List.take_left' (by rw [List.length_append, hn1, hn2])
 rcases hown.2 with ⟨rfl, h0⟩ | ⟨g, cap, cur, rfl, hbg, hg, hnc, hcm, hcs, htake⟩
 ·have hx : xs = [] := List.eq_nil_of_length_eq_zero h0
  subst hx
  by_cases hm : ys.length = 0
  ·have hy : ys = [] := List.eq_nil_of_length_eq_zero hm
   subst hy
   refine ⟨.slice none 0 0, w, ?_, World.ownsRow_nil w N 5 1, Grew.refl _ _⟩
   have hc0 : (Builtin.firstCells 1 0 x).run Tryd.prog w = .ok #[] w := hs.cells
   rcases hs.kind with ⟨e', hk⟩ | hk <;> simp [Builtin.append_, run_underlying ht, run_underlying hk, sizeOf, typeInfo, hi, hs.len, hsz, hc0]
  ·have hr := run_append_grow_src (P := Tryd.prog) w 22 tx ty 5 i0 (.int .u8 0) ht hi hz none 0 0 [] (run_firstCells_none w.drew i0.size 0 0 0) x ys.length (nums .u8 ys) (by rw [hsz]; exact hs) (by rw [Nat.zero_add]; exact Nat.pos_of_ne_zero hm) (by omega) (growslice_fits (by rw [Nat.zero_add]; exact Nat.pos_of_ne_zero hm) (by rw [hby]; omega))
   have hgr := grown 0 (by show 0 < 0 + _; rw [Nat.zero_add]; exact Nat.pos_of_ne_zero hm)
   simp only [List.length_nil, Nat.zero_add, List.nil_append] at hr hgr
   exact ⟨_, _, hr, hgr, ⟨⟨rfl, rfl, rfl, by simp, fun k hk _ => heap_alloc_old w.drew _ hk⟩, .inr ⟨_, rfl, Nat.le_refl _⟩⟩⟩
 ·by_cases hroom : xs.length + ys.length ≤ cap
  ·have hfit : xs.length * 1 + (nums .u8 ys).length ≤ cur.size := by rw [hcs, hn2]; omega
   have hst := run_storeCells_at Tryd.prog g (xs.length * 1) 5 (nums .u8 ys) 0 cur w hg (by simpa using hfit) hs.one
   simp only [Nat.add_zero, Nat.mul_one] at hst
   refine ⟨.slice (some ⟨g, 0, none⟩) (xs.length + ys.length) cap, _, ?_, ⟨by rw [hlen, hxl, Nat.mul_one], .inr ⟨g, cap, _, by rw [hxl], hbg, setRow_heap w g cur ((cur.toList.take (xs.length * 1) ++ nums .u8 ys ++ cur.toList.drop (xs.length * 1 + (nums .u8 ys).length)).toArray) 5 _ hg, by rw [hxl]; exact hroom, hcm, ?_, ?_⟩⟩, ⟨⟨rfl, rfl, rfl, by simp, fun k _ hk => setRow_other w g k _ (fun e => hk (by simp [Value.ownBlock, e]))⟩, .inl rfl⟩⟩
   ·rcases hs.kind with ⟨e', hk⟩ | hk <;> simp [Builtin.append_, run_underlying ht, run_underlying hk, sizeOf, typeInfo, hi, hsz, hs.len, hroom, hs.cells, Addr.add_lit, hst]
   ·simp only [List.size_toArray, List.length_append, List.length_take, List.length_drop, Array.length_toList]
    omega
   ·rw [htake, hxl, Nat.mul_one, nums_app]
    exact List.take_left' (by rw [List.length_append, hn1, hn2])
  ·have holds : ∀ j u, (nums .u8 xs)[j]? = some u → w.cell? ((⟨g, 0, none⟩ : Addr).add j) = some u := hown.cells (g := g) rfl
   have hr := run_append_grow_src (P := Tryd.prog) w 22 tx ty 5 i0 (.int .u8 0) ht hi hz (some ⟨g, 0, none⟩) xs.length cap (nums .u8 xs) (run_firstCells_some w.drew i0.size xs.length ⟨g, 0, none⟩ xs.length cap (nums .u8 xs) (by rw [hn1, hsz, Nat.mul_one]) (by simpa using holds)) x ys.length (nums .u8 ys) (by rw [hsz]; exact hs) (by omega) (by omega) (growslice_fits (by omega) (by rw [hby]; omega))
   exact ⟨_, _, hr, grown cap (by omega), ⟨⟨rfl, rfl, rfl, by simp, fun k hk _ => heap_alloc_old w.drew _ hk⟩, .inr ⟨_, rfl, Nat.le_refl _⟩⟩⟩
section
variable {ops : Array Oper} {rest : List Oper} {o : Oper} {a : Act} {Q : Exit → Act → World → Prop}
theorem wp_app {K : Act → World → Prop} (s y : Operand) (tx : TypeId) (ho : o.op = .call { callee := .builtin .append, args := #[s, y], argTypes := #[22, tx] }) (hs : a.eval s = v) (hx : a.eval y = x)
  (hown : Own N w v xs) (hsrc : Src Tryd.prog 1 tx x ys.length (nums .u8 ys) w) (hb : xs.length + ys.length ≤ 70368744177664) (hN : N ≤ w.heap.size)
  (h : ∀ v' w', Own N w' v' (xs ++ ys) → Grew w v w' v' → K (a.put o.dst v') w') : o.wp Tryd.prog a w K Q := by
 obtain ⟨v', w', hr, h2, h3⟩ := run_app o.type hown hsrc hb hN
 unfold Oper.wp execOp
 simp only [ho, resolve, invoke, builtin, Sem.run_bind, Sem.run_pure, Result.andThen_ok, List.map_toArray, List.map_cons, List.map_nil, hs, hx, hr]
 exact h v' w' h2 h3
theorem wpList_app (hgd : o.guard = none) (s y : Operand) (tx : TypeId) (ho : o.op = .call { callee := .builtin .append, args := #[s, y], argTypes := #[22, tx] }) (v x : Value) (xs ys : List Int) (hs : a.eval s = v) (hx : a.eval y = x)
  (hown : Own N w v xs) (hsrc : Src Tryd.prog 1 tx x ys.length (nums .u8 ys) w) (hb : xs.length + ys.length ≤ 70368744177664) (hN : N ≤ w.heap.size)
  (h : ∀ v' w', Own N w' v' (xs ++ ys) → Grew w v w' v' → wpList Tryd.prog ops Q rest (a.put o.dst v') w') : wpList Tryd.prog ops Q (o :: rest) a w :=
 wpList_plain hgd fun _ hK => wp_app s y tx ho hs hx hown hsrc hb hN fun v' w' h2 h3 => hK _ _ (h v' w' h2 h3)
/-- As one step of a region that draws. -/
theorem step_app {K : Act → World → Prop} {E : Prop} (hg : o.guard = none) (s y : Operand) (tx : TypeId) (ho : o.op = .call { callee := .builtin .append, args := #[s, y], argTypes := #[22, tx] }) (v x : Value) (xs ys : List Int) (hs : a.eval s = v) (hx : a.eval y = x)
  (hown : Own N w v xs) (hsrc : Src Tryd.prog 1 tx x ys.length (nums .u8 ys) w) (hb : xs.length + ys.length ≤ 70368744177664) (hN : N ≤ w.heap.size)
  (h : ∀ v' w', Own N w' v' (xs ++ ys) → Grew w v w' v' → K (a.put o.dst v') w') : if Region.wanted o (yielded ops a.tmps) = true then Oper.wp Tryd.prog o a w K Q else E := by
 have hw : Region.wanted o (yielded ops a.tmps) = true := by simp [Region.wanted, hg]
 rw [if_pos hw]
 exact wp_app s y tx ho hs hx hown hsrc hb hN h
end
end
end Go.Proofs.YtbikiibpjdiaaaaDoor.Err
/- What the package's loop over runs of digits comes to, by words and bytes: the end of the run; plain lemmas over the printed functions. -/
namespace Go.Proofs.YtbikiibpjdiaaaaDoor.Dig
open Go.RowKit Go.Proofs.YtbikiibpjdiaaaaDoor.QN Go.Proofs.YtbikiibpjdiaaaaDoorW.PrintWords Go.Proofs.YtbikiibpjdiaaaaDoorW.PrintLast Go.Proofs.YtbikiibpjdiaaaaDoorW.PrintMore Go.Proofs.YtbikiibpjdiaaaaDoor.Swar Go.Proofs.YtbikiibpjdiaaaaDoor.Tab

theorem wrapu (n : Nat) (h : n < 18446744073709551616) : IntKind.u64.wrap (n : Int) = (n : Int) := by rw [IntKind.wrap_u64]; omega
theorem or8 (b0 b1 b2 b3 b4 b5 b6 b7 : Nat) (h0 : b0 < 256) (h1 : b1 < 256) (h2 : b2 < 256) (h3 : b3 < 256) (h4 : b4 < 256) (h5 : b5 < 256) (h6 : b6 < 256) (h7 : b7 < 256) :
  Go.bits .or .u64 (Go.bits .or .u64 (Go.bits .or .u64 (Go.bits .or .u64 (Go.bits .or .u64 (Go.bits .or .u64 (Go.bits .or .u64 (b0 : Int) ((b1 * 256 ^ 1 : Nat) : Int)) ((b2 * 256 ^ 2 : Nat) : Int)) ((b3 * 256 ^ 3 : Nat) : Int)) ((b4 * 256 ^ 4 : Nat) : Int)) ((b5 * 256 ^ 5 : Nat) : Int)) ((b6 * 256 ^ 6 : Nat) : Int)) ((b7 * 256 ^ 7 : Nat) : Int)
   = ((hw [b0, b1, b2, b3, b4, b5, b6, b7] : Nat) : Int) := by
 rw [or_place b0 b1 1 (by decide) (by omega) h1, or_place (b0 + 256 ^ 1 * b1) b2 2 (by decide) (by omega) h2, or_place (b0 + 256 ^ 1 * b1 + 256 ^ 2 * b2) b3 3 (by decide) (by omega) h3,
  or_place (b0 + 256 ^ 1 * b1 + 256 ^ 2 * b2 + 256 ^ 3 * b3) b4 4 (by decide) (by omega) h4, or_place (b0 + 256 ^ 1 * b1 + 256 ^ 2 * b2 + 256 ^ 3 * b3 + 256 ^ 4 * b4) b5 5 (by decide) (by omega) h5,
  or_place (b0 + 256 ^ 1 * b1 + 256 ^ 2 * b2 + 256 ^ 3 * b3 + 256 ^ 4 * b4 + 256 ^ 5 * b5) b6 6 (by decide) (by omega) h6, or_place (b0 + 256 ^ 1 * b1 + 256 ^ 2 * b2 + 256 ^ 3 * b3 + 256 ^ 4 * b4 + 256 ^ 5 * b5 + 256 ^ 6 * b6) b7 7 (by decide) (by omega) h7]
 congr 1
 simp only [hw]
 omega
theorem rd_byte (l : List Int) (hb : Bytes l) (i : Nat) : ∃ n : Nat, rd l (i : Int) = (n : Int) ∧ n < 256 ∧ (rd l (i : Int)).toNat = n := by
 have := rd_mem hb i
 exact ⟨(rd l (i : Int)).toNat, by omega, by omega, rfl⟩
theorem le64_f (l : List Int) (hb : Bytes l) (i : Nat) (h : i + 8 ≤ l.length) : gojsonnum_le64.f (l.drop i) = some ((hw (nb l 8 i) : Nat) : Int) := by
 obtain ⟨b0, e0, h0, f0⟩ := rd_byte l hb (i + 0)
 obtain ⟨b1, e1, h1, f1⟩ := rd_byte l hb (i + 1)
 obtain ⟨b2, e2, h2, f2⟩ := rd_byte l hb (i + 2)
 obtain ⟨b3, e3, h3, f3⟩ := rd_byte l hb (i + 3)
 obtain ⟨b4, e4, h4, f4⟩ := rd_byte l hb (i + 4)
 obtain ⟨b5, e5, h5, f5⟩ := rd_byte l hb (i + 5)
 obtain ⟨b6, e6, h6, f6⟩ := rd_byte l hb (i + 6)
 obtain ⟨b7, e7, h7, f7⟩ := rd_byte l hb (i + 7)
 have hl : ((l.drop i).length : Int) = (l.length : Int) - i := by rw [List.length_drop]; omega
 have hn : nb l 8 i = [b0, b1, b2, b3, b4, b5, b6, b7] := by
  simp only [nb]
  rw [show i + 1 + 1 + 1 + 1 + 1 + 1 + 1 = i + 7 from rfl, show i + 1 + 1 + 1 + 1 + 1 + 1 = i + 6 from rfl, show i + 1 + 1 + 1 + 1 + 1 = i + 5 from rfl, show i + 1 + 1 + 1 + 1 = i + 4 from rfl, show i + 1 + 1 + 1 = i + 3 from rfl, show i + 1 + 1 = i + 2 from rfl, f1, f2, f3, f4, f5, f6, f7]
  rw [show (i : Int) = ((i + 0 : Nat) : Int) from rfl, f0]
 unfold gojsonnum_le64.f
 rw [hl, if_pos (by omega), if_pos (by omega), if_pos (by omega), if_pos (by omega), if_pos (by omega), if_pos (by omega), if_pos (by omega), if_pos (by omega)]
 have r := rd_drop l i
 have r0 := r 0; have r1 := r 1; have r2 := r 2; have r3 := r 3; have r4 := r 4; have r5 := r 5; have r6 := r 6; have r7 := r 7
 rw [e0] at r0; rw [e1] at r1; rw [e2] at r2; rw [e3] at r3; rw [e4] at r4; rw [e5] at r5; rw [e6] at r6; rw [e7] at r7
 rw [show rd (l.drop i) 0 = (b0 : Int) from r0, show rd (l.drop i) 1 = (b1 : Int) from r1, show rd (l.drop i) 2 = (b2 : Int) from r2, show rd (l.drop i) 3 = (b3 : Int) from r3, show rd (l.drop i) 4 = (b4 : Int) from r4, show rd (l.drop i) 5 = (b5 : Int) from r5, show rd (l.drop i) 6 = (b6 : Int) from r6, show rd (l.drop i) 7 = (b7 : Int) from r7]
 rw [wrapu b0 (by omega), wrapu b1 (by omega), wrapu b2 (by omega), wrapu b3 (by omega), wrapu b4 (by omega), wrapu b5 (by omega), wrapu b6 (by omega), wrapu b7 (by omega)]
 rw [show IntKind.u64.wrap ((b1 : Int) * 256) = ((b1 * 256 ^ 1 : Nat) : Int) from by rw [IntKind.wrap_u64]; omega, show IntKind.u64.wrap ((b2 : Int) * 65536) = ((b2 * 256 ^ 2 : Nat) : Int) from by rw [IntKind.wrap_u64]; omega,
  show IntKind.u64.wrap ((b3 : Int) * 16777216) = ((b3 * 256 ^ 3 : Nat) : Int) from by rw [IntKind.wrap_u64]; omega, show IntKind.u64.wrap ((b4 : Int) * 4294967296) = ((b4 * 256 ^ 4 : Nat) : Int) from by rw [IntKind.wrap_u64]; omega,
  show IntKind.u64.wrap ((b5 : Int) * 1099511627776) = ((b5 * 256 ^ 5 : Nat) : Int) from by rw [IntKind.wrap_u64]; omega, show IntKind.u64.wrap ((b6 : Int) * 281474976710656) = ((b6 * 256 ^ 6 : Nat) : Int) from by rw [IntKind.wrap_u64]; omega,
  show IntKind.u64.wrap ((b7 : Int) * 72057594037927936) = ((b7 * 256 ^ 7 : Nat) : Int) from by rw [IntKind.wrap_u64]; omega]
 rw [or8 b0 b1 b2 b3 b4 b5 b6 b7 h0 h1 h2 h3 h4 h5 h6 h7, hn]

/-- The byte's top bit, if it is no digit. -/
def pnd (b : Nat) : Bool := !(decide (48 ≤ b ∧ b ≤ 57))
def nd (b : Nat) : Nat := if pnd b then 128 else 0
theorem bf_of (f : Nat → Nat) (h : ∀ b : Fin 256, f b.1 < 256) : Bf f := fun b hb => h ⟨b, hb⟩
theorem nd_bytes : ∀ b : Fin 256, ((((b.1 ^^^ 48) &&& (255 - 128)) + 118) ||| (b.1 ^^^ 48)) &&& 128 = nd b.1 := by decide +kernel
theorem nd_word (l : List Nat) (hl : l.length = 8) (h : Bs l) :
  Go.bits .and .u64 (Go.bits .or .u64 (IntKind.u64.wrap ((Go.bits .andNot .u64 (Go.bits .xor .u64 ((hw l : Nat) : Int) 3472328296227680304) 9259542123273814144) + 8536140394893047414)) (Go.bits .xor .u64 ((hw l : Nat) : Int) 3472328296227680304)) 9259542123273814144 = ((hw (l.map nd) : Nat) : Int) := by
 have e0 : hw l = hw (l.map fun b => b) := by simp
 have cT : (9259542123273814144 : Int) = (hw (l.map fun _ => 128) : Nat) := by rw [w_const l hl]; rfl
 have cA : (8536140394893047414 : Int) = (hw (l.map fun _ => 118) : Nat) := by rw [w_const l hl]; rfl
 have cB : (3472328296227680304 : Int) = (hw (l.map fun _ => 48) : Nat) := by rw [w_const l hl]; rfl
 have bid : Bf fun b => b := fun b hb => hb
 have b128 : Bf fun _ => 128 := fun _ _ => (by decide : (128 : Nat) < 256)
 have b118 : Bf fun _ => 118 := fun _ _ => (by decide : (118 : Nat) < 256)
 have b48 : Bf fun _ => 48 := fun _ _ => (by decide : (48 : Nat) < 256)
 rw [cT, cA, cB, e0]
 rw [w_xor l hl h _ _ bid b48, w_andNot l hl h _ _ (bf_of _ (by decide +kernel)) b128, w_add l hl h _ _ (bf_of _ (by decide +kernel)), w_or l hl h _ _ (bf_of _ (by decide +kernel)) (bf_of _ (by decide +kernel)), w_and l hl h _ _ (bf_of _ (by decide +kernel)) b128,
  hw_map_congr l _ nd (fun b hb => nd_bytes ⟨b, hb⟩) h]

theorem first_t {p : Nat → Bool} {b : Nat} {r : List Nat} (h : p b = true) : first p (b :: r) = 0 := if_pos h
theorem first_f {p : Nat → Bool} {b : Nat} {r : List Nat} (h : p b = false) : first p (b :: r) = 1 + first p r := if_neg (by rw [h]; exact Bool.false_ne_true)
/-- Of eight bytes: how many digits stand ahead. -/
theorem first_run (l : List Int) (hb : Bytes l) : ∀ n d i, n ≤ d → i + d = l.length → runEnd l d i = if first pnd (nb l n i) < n then i + first pnd (nb l n i) else runEnd l (d - n) (i + n) := by
 intro n
 induction n with
 | zero => intro d i _ _; simp [nb, first]
 | succ n ih =>
  intro d i hd hi
  obtain ⟨d, rfl⟩ : ∃ m, d = m + 1 := ⟨d - 1, by omega⟩
  have hr := rd_mem hb i
  have := ih d (i + 1) (by omega) (by omega)
  have hnb : nb l (n + 1) i = (rd l (i : Int)).toNat :: nb l n (i + 1) := rfl
  have hre : runEnd l (d + 1) i = if isD (rd l (i : Int)) then runEnd l d (i + 1) else i := rfl
  rw [hnb, hre]
  by_cases h : isD (rd l (i : Int)) = true
  ·have h' := h
   simp only [isD, decide_eq_true_eq] at h'
   have hp : pnd (rd l (i : Int)).toNat = false := by unfold pnd; rw [decide_eq_true (by omega)]; rfl
   rw [if_pos h, first_f hp, this]
   by_cases h2 : first pnd (nb l n (i + 1)) < n
   ·rw [if_pos h2, if_pos (by omega)]; omega
   ·rw [if_neg h2, if_neg (by omega), show d + 1 - (n + 1) = d - n by omega, show i + 1 + n = i + (n + 1) by omega]
  ·have h' := h
   simp only [isD, decide_eq_true_eq] at h'
   have hp : pnd (rd l (i : Int)).toNat = true := by unfold pnd; rw [decide_eq_false (by omega)]; rfl
   rw [if_neg h, first_t hp, if_pos (by omega)]
   rfl

theorem Scan_1 (l : List Int) (hl : l.length ≤ 140737488355327) : ∀ d i k, i + d = l.length → d < k → gojsonnum_ScanDigits.l1 k l (i : Int) = some ((runEnd l d i : Nat) : Int) := by
 intro d
 induction d with
 | zero =>
  intro i k hi hk
  obtain ⟨k, rfl⟩ : ∃ m, k = m + 1 := ⟨k - 1, by omega⟩
  simp only [gojsonnum_ScanDigits.l1]
  rw [if_neg (by omega)]
  rfl
 | succ d ih =>
  intro i k hi hk
  obtain ⟨k, rfl⟩ : ∃ m, k = m + 1 := ⟨k - 1, by omega⟩
  simp only [gojsonnum_ScanDigits.l1]
  rw [if_pos (by omega), if_pos (by omega)]
  unfold runEnd
  by_cases h : isD (rd l (i : Int)) = true
  ·have h' := h
   simp only [isD, decide_eq_true_eq] at h'
   rw [if_pos h'.1, if_pos h'.2, if_pos h, wrap_succ i l.length (by omega) (by omega)]
   exact ih (i + 1) k (by omega) (by omega)
  ·have h' := h
   simp only [isD, decide_eq_true_eq] at h'
   rw [if_neg h]
   by_cases h1 : 48 ≤ rd l (i : Int)
   ·rw [if_pos h1, if_neg (by omega)]
   ·rw [if_neg h1]
theorem wrap_two (i m : Nat) (hi : i ≤ 140737488355328) (hm : m ≤ 64) : wrap64 ((i : Int) + wrap64 ((m : Nat) : Int)) = ((i + m : Nat) : Int) := by unfold wrap64; omega
theorem Scan_0 (l : List Int) (hb : Bytes l) (hl : l.length ≤ 140737488355327) : ∀ n d i k, d ≤ n → i + d = l.length → d + 1 < k → gojsonnum_ScanDigits.l0 k l (i : Int) = some ((runEnd l d i : Nat) : Int) := by
 intro n
 induction n with
 | zero =>
  intro d i k hn hi hk
  obtain ⟨k, rfl⟩ : ∃ m, k = m + 1 := ⟨k - 1, by omega⟩
  rw [gojsonnum_ScanDigits.l0]
  rw [if_neg (by unfold wrap64; omega)]
  exact Scan_1 l hl d i k hi (by omega)
 | succ n ih =>
  intro d i k hn hi hk
  obtain ⟨k, rfl⟩ : ∃ m, k = m + 1 := ⟨k - 1, by omega⟩
  have hw8 : wrap64 ((i : Int) + 8) = ((i + 8 : Nat) : Int) := by unfold wrap64; omega
  rw [gojsonnum_ScanDigits.l0, hw8]
  by_cases h8 : i + 8 ≤ l.length
  ·rw [if_pos (by omega), if_pos (by omega), if_pos (by omega), Int.toNat_natCast, le64_f l hb i h8, Option.bind_some]
   have hbs := nb_bs l hb 8 i
   rw [nd_word _ (nb_length l 8 i) hbs]
   have hf := first_run l hb 8 d i (by omega) hi
   have hfl := first_le pnd (nb l 8 i)
   rw [nb_length] at hfl
   by_cases h0 : hw ((nb l 8 i).map nd) = 0
   ·rw [if_pos (by rw [h0]; rfl)]
    have := hw_zero pnd (nb l 8 i) nd (fun b => rfl) h0
    rw [nb_length] at this
    rw [hf, if_neg (by omega)]
    exact ih (d - 8) (i + 8) k (by omega) (by omega) (by omega)
   ·rw [if_neg (by omega)]
    have hlt := lt64 (nb l 8 i) (nb_length l 8 i) nd (bf_of nd (by decide +kernel)) hbs
    have hc := ctz_first pnd (nb l 8 i) nd (fun b => rfl) h0 64 (by rw [nb_length]; decide)
    have hcz : Lib.ctz 64 (hw ((nb l 8 i).map nd)) = Lib.ctzFrom 64 (hw ((nb l 8 i).map nd)) := by unfold Lib.ctz; rw [if_neg h0]
    have hk64 := (Lib.lowest_bit 64 _ h0 hlt).2
    unfold tz64.f
    rw [if_pos (by omega), Option.bind_some, Int.toNat_natCast, hcz]
    rw [hcz] at hk64
    generalize Lib.ctzFrom 64 (hw ((nb l 8 i).map nd)) = z at *
    rw [show Int.tdiv (z : Int) 8 = ((z / 8 : Nat) : Int) from by rw [Int.tdiv_eq_ediv_of_nonneg (by omega)]; omega, hc]
    rw [hf, if_pos (by omega), wrap_two i _ (by omega) (by omega)]
  ·rw [if_neg (by omega)]
   exact Scan_1 l hl d i k hi (by omega)
theorem Scan_f (l : List Int) (hb : Bytes l) (hl : l.length ≤ 140737488355327) (i k : Nat) (hi : i ≤ l.length) (hk : l.length - i + 1 < k) : gojsonnum_ScanDigits.f k l (i : Int) = some ((runEnd l (l.length - i) i : Nat) : Int) :=
 Scan_0 l hb hl _ _ i k (Nat.le_refl _) (by omega) hk

end Go.Proofs.YtbikiibpjdiaaaaDoor.Dig
/- The reference's and the package's walks over numbers, as printed, come to the same place and kind; plain lemmas. -/
namespace Go.Proofs.YtbikiibpjdiaaaaDoor.Dig
open Go.RowKit Go.Proofs.YtbikiibpjdiaaaaDoor.QN Go.Proofs.YtbikiibpjdiaaaaDoorW.PrintWords Go.Proofs.YtbikiibpjdiaaaaDoorW.PrintLast Go.Proofs.YtbikiibpjdiaaaaDoorW.PrintMore

theorem ws (i : Nat) (h : i ≤ 140737488355328) : wrap64 ((i : Int) + 1) = ((i + 1 : Nat) : Int) := by unfold wrap64; omega
theorem scn (l : List Int) (hb : Bytes l) (hl : l.length ≤ 70000000) (i k : Nat) (hi : i ≤ l.length) (hk : 70000010 < k) : gojsonnum_ScanDigits.f k l (i : Int) = some ((dEnd l i : Nat) : Int) := Scan_f l hb (by omega) i k hi (by omega)

/-- A place at which a digit is due: as the package asks. -/
theorem due {α : Type} (l : List Int) (i : Nat) (hi : i ≤ l.length) (no yes : Option α) :
  (if (i : Int) = (l.length : Int) then no else if 0 ≤ (i : Int) then (if (i : Int) < (l.length : Int) then (if rd l (i : Int) < 48 then no else if 57 < rd l (i : Int) then no else yes) else none) else none) = if dEnd l i = i then no else yes := by
 by_cases h : i = l.length
 ·rw [if_pos (by omega), if_pos (dEnd_end l i (by omega))]
 ·rw [if_neg (by omega), if_pos (by omega), if_pos (by omega)]
  have hs := dEnd_step l i (by omega)
  by_cases hd : isD (rd l (i : Int)) = true
  ·have h2 := (isD_iff _).1 hd
   have hgt : i < dEnd l i := dEnd_gt l i (by omega) hd
   rw [if_neg (show ¬ rd l (i : Int) < 48 by omega), if_neg (show ¬ 57 < rd l (i : Int) by omega), if_neg (show ¬ dEnd l i = i by omega)]
  ·rw [if_neg hd] at hs
   rw [if_pos hs]
   have h2 : ¬ (48 ≤ rd l (i : Int) ∧ rd l (i : Int) ≤ 57) := fun h => hd ((isD_iff _).2 h)
   by_cases h3 : rd l (i : Int) < 48
   ·rw [if_pos h3]
   ·rw [if_neg h3, if_pos (by omega)]
/-- Behind a digit the run goes on. -/
theorem dEnd_next (l : List Int) (i : Nat) (_hi : i ≤ l.length) (h : dEnd l i ≠ i) : i < l.length ∧ dEnd l (i + 1) = dEnd l i := by
 have hlt : i < l.length := by
  rcases Nat.lt_or_ge i l.length with h2 | h2
  ·exact h2
  ·exact absurd (dEnd_end l i h2) h
 have hs := dEnd_step l i hlt
 by_cases hd : isD (rd l (i : Int)) = true
 ·rw [if_pos hd] at hs; exact ⟨hlt, hs.symm⟩
 ·rw [if_neg hd] at hs; exact absurd hs h
theorem p6 (l : List Int) (hb : Bytes l) (hl : l.length ≤ 70000000) (i k : Nat) (b : Bool) (hi : i + (if b then 1 else 0) ≤ l.length) (hk : 70000011 < k) : gojsonnum_Scan.j6 k l (i : Int) b = some (z2 (r6 l (i + if b then 1 else 0))) := by
 obtain ⟨k, rfl⟩ : ∃ m, k = m + 1 := ⟨k - 1, by omega⟩
 rw [gojsonnum_Scan.j6]
 cases b with
 | true =>
  simp only [if_true] at hi ⊢
  rw [ws i (by omega), due l (i + 1) hi, ws (i + 1) (by omega)]
  unfold r6
  by_cases h : dEnd l (i + 1) = i + 1
  ·rw [if_pos h, if_pos h]; rfl
  ·have hn := dEnd_next l (i + 1) hi h
   rw [if_neg h, if_neg h, scn l hb hl (i + 1 + 1) k (by omega) (by omega), Option.bind_some, hn.2]; rfl
 | false =>
  rw [if_neg Bool.false_ne_true] at hi ⊢
  rw [due l i hi, ws i (by omega), show i + (if false = true then 1 else 0) = i from rfl]
  unfold r6
  by_cases h : dEnd l i = i
  ·rw [if_pos h, if_pos h]; rfl
  ·have hn := dEnd_next l i hi h
   rw [if_neg h, if_neg h, scn l hb hl (i + 1) k (by omega) (by omega), Option.bind_some, hn.2]; rfl
theorem p5 (l : List Int) (hb : Bytes l) (hl : l.length ≤ 70000000) (i k : Nat) (b : Bool) (hi : i + (if b then 1 else 0) ≤ l.length) (hk : 70000012 < k) : gojsonnum_Scan.j5 k l (i : Int) b = some (z2 (r5 l i b)) := by
 obtain ⟨k, rfl⟩ : ∃ m, k = m + 1 := ⟨k - 1, by omega⟩
 rw [gojsonnum_Scan.j5]
 cases b with
 | false => rfl
 | true =>
  simp only [if_true] at hi
  rw [if_pos rfl, ws i (by omega)]
  unfold r5
  rw [if_pos rfl]
  by_cases h1 : i + 1 < l.length
  ·rw [if_pos (by omega), if_pos (by omega)]
   by_cases h2 : rd l ((i + 1 : Nat) : Int) = 43
   ·rw [if_pos h2, if_pos ⟨h1, .inl h2⟩, p6 l hb hl (i + 1) k true (by simp; omega) (by omega)]; rfl
   ·rw [if_neg h2]
    by_cases h3 : rd l ((i + 1 : Nat) : Int) = 45
    ·rw [if_pos ⟨h1, .inr h3⟩, h3, show ((45 : Int) == 45) = true from rfl, p6 l hb hl (i + 1) k true (by simp; omega) (by omega)]; rfl
    ·rw [if_neg (fun h => h.2.elim h2 h3), beq_eq_false_iff_ne.2 h3, p6 l hb hl (i + 1) k false (by simp; omega) (by omega)]; rfl
  ·rw [if_neg (by omega), if_neg (fun h => h1 h.1), p6 l hb hl (i + 1) k false (by simp; omega) (by omega)]; rfl
theorem p4 (l : List Int) (hb : Bytes l) (hl : l.length ≤ 70000000) (i k : Nat) (hi : i ≤ l.length) (hk : 70000013 < k) : gojsonnum_Scan.j4 k l (i : Int) = some (z2 (r4 l i)) := by
 obtain ⟨k, rfl⟩ : ∃ m, k = m + 1 := ⟨k - 1, by omega⟩
 rw [gojsonnum_Scan.j4]
 unfold r4
 by_cases h1 : i < l.length
 ·rw [if_pos (by omega), if_pos (by omega)]
  by_cases h2 : rd l (i : Int) = 101
  ·rw [if_pos h2, decide_eq_true ⟨h1, .inl h2⟩]
   exact p5 l hb hl i k true (by simp; omega) (by omega)
  ·rw [if_neg h2]
   by_cases h3 : rd l (i : Int) = 69
   ·rw [decide_eq_true ⟨h1, .inr h3⟩, h3, show ((69 : Int) == 69) = true from rfl]
    exact p5 l hb hl i k true (by simp; omega) (by omega)
   ·rw [decide_eq_false (fun h => h.2.elim h2 h3), beq_eq_false_iff_ne.2 h3]
    exact p5 l hb hl i k false (by simp; omega) (by omega)
 ·rw [if_neg (by omega), decide_eq_false (fun h => h1 h.1)]
  exact p5 l hb hl i k false (by simp; omega) (by omega)
theorem p3 (l : List Int) (hb : Bytes l) (hl : l.length ≤ 70000000) (i k : Nat) (b : Bool) (hi : i + (if b then 1 else 0) ≤ l.length) (hk : 70000014 < k) : gojsonnum_Scan.j3 k l (i : Int) b = some (z2 (r3 l i b)) := by
 obtain ⟨k, rfl⟩ : ∃ m, k = m + 1 := ⟨k - 1, by omega⟩
 rw [gojsonnum_Scan.j3]
 unfold r3
 cases b with
 | false => exact p4 l hb hl i k (by simpa using hi) (by omega)
 | true =>
  simp only [if_true] at hi
  rw [if_pos rfl, if_pos rfl, ws i (by omega), due l (i + 1) hi, ws (i + 1) (by omega)]
  by_cases h : dEnd l (i + 1) = i + 1
  ·rw [if_pos h, if_pos h]; rfl
  ·have hn := dEnd_next l (i + 1) hi h
   rw [if_neg h, if_neg h, scn l hb hl (i + 1 + 1) k (by omega) (by omega), Option.bind_some, hn.2]
   exact p4 l hb hl _ k (dEnd_ge l (i + 1) hi).2 (by omega)
theorem p2 (l : List Int) (hb : Bytes l) (hl : l.length ≤ 70000000) (i k : Nat) (hi : i ≤ l.length) (hk : 70000015 < k) : gojsonnum_Scan.j2 k l (i : Int) = some (z2 (r2 l i)) := by
 obtain ⟨k, rfl⟩ : ∃ m, k = m + 1 := ⟨k - 1, by omega⟩
 rw [gojsonnum_Scan.j2]
 unfold r2
 by_cases h1 : i < l.length
 ·rw [if_pos (by omega), if_pos (by omega)]
  by_cases h2 : rd l (i : Int) = 46
  ·rw [decide_eq_true ⟨h1, h2⟩, h2, show ((46 : Int) == 46) = true from rfl]
   exact p3 l hb hl i k true (by simp; omega) (by omega)
  ·rw [decide_eq_false (fun h => h2 h.2), beq_eq_false_iff_ne.2 h2]
   exact p3 l hb hl i k false (by simp; omega) (by omega)
 ·rw [if_neg (by omega), decide_eq_false (fun h => h1 h.1)]
  exact p3 l hb hl i k false (by simp; omega) (by omega)
theorem p1 (l : List Int) (hb : Bytes l) (hl : l.length ≤ 70000000) (i k : Nat) (hi : i ≤ l.length) (hk : 70000016 < k) : gojsonnum_Scan.j1 k l (i : Int) = some (z2 (r1 l i)) := by
 obtain ⟨k, rfl⟩ : ∃ m, k = m + 1 := ⟨k - 1, by omega⟩
 rw [gojsonnum_Scan.j1]
 unfold r1
 by_cases h0 : i = l.length
 ·rw [if_pos (by omega), if_pos (dEnd_end l i (by omega))]; rfl
 ·rw [if_neg (by omega), if_pos (by omega), if_pos (by omega)]
  have hs := dEnd_step l i (by omega)
  by_cases h48 : rd l (i : Int) = 48
  ·have := dEnd_gt l i (by omega) ((isD_iff _).2 (by omega))
   rw [if_pos h48, if_neg (by omega), if_pos h48, ws i (by omega)]
   exact p2 l hb hl (i + 1) k (by omega) (by omega)
  ·rw [if_neg h48]
   by_cases hd : isD (rd l (i : Int)) = true
   ·have h2 := (isD_iff _).1 hd
    have hg := dEnd_gt l i (by omega) hd
    have hn := dEnd_next l i (by omega) (by omega)
    rw [if_pos (show 49 ≤ rd l (i : Int) by omega), if_pos (show rd l (i : Int) ≤ 57 by omega), if_neg (show ¬ dEnd l i = i by omega), if_neg h48, ws i (by omega), scn l hb hl (i + 1) k (by omega) (by omega), Option.bind_some, hn.2]
    exact p2 l hb hl _ k (dEnd_ge l i (by omega)).2 (by omega)
   ·rw [if_neg hd] at hs
    have h2 : ¬ (48 ≤ rd l (i : Int) ∧ rd l (i : Int) ≤ 57) := fun h => hd ((isD_iff _).2 h)
    rw [if_pos hs]
    by_cases h3 : 49 ≤ rd l (i : Int)
    ·rw [if_pos h3, if_neg (by omega)]; rfl
    ·rw [if_neg h3]; rfl
theorem pack_scan (l : List Int) (hb : Bytes l) (hl : l.length ≤ 70000000) (k : Nat) (hk : 70000020 < k) : gojsonnum_Scan.f k l = some (z2 (scanNum l)) := by
 obtain ⟨k, rfl⟩ : ∃ m, k = m + 1 := ⟨k - 1, by omega⟩
 unfold gojsonnum_Scan.f scanNum
 by_cases h0 : 0 < l.length
 ·rw [if_pos (by omega)]
  by_cases h1 : rd l 0 = 45
  ·rw [if_pos ⟨h0, h1⟩, h1, show ((45 : Int) == 45) = true from rfl, gojsonnum_Scan.j0, if_pos rfl, show wrap64 (0 + 1) = ((1 : Nat) : Int) from by unfold wrap64; rfl]
   exact p1 l hb hl 1 k (by omega) (by omega)
  ·rw [if_neg (fun h => h1 h.2), beq_eq_false_iff_ne.2 h1, gojsonnum_Scan.j0, if_neg Bool.false_ne_true]
   exact p1 l hb hl 0 k (by omega) (by omega)
 ·rw [if_neg (by omega), if_neg (fun h => h0 h.1), gojsonnum_Scan.j0, if_neg Bool.false_ne_true]
  exact p1 l hb hl 0 k (by omega) (by omega)
theorem kind_le (l : List Int) : (scanNum l).2 ≤ 3 := by
 have h6 : ∀ i, (r6 l i).2 ≤ 3 := fun i => by unfold r6; split <;> simp
 have h5 : ∀ i b, (r5 l i b).2 ≤ 3 := fun i b => by unfold r5; split; split; exact h6 _; exact h6 _; simp
 have h4 : ∀ i, (r4 l i).2 ≤ 3 := fun i => h5 _ _
 have h3 : ∀ i b, (r3 l i b).2 ≤ 3 := fun i b => by unfold r3; split; split; simp; exact h4 _; exact h4 _
 have h2 : ∀ i, (r2 l i).2 ≤ 3 := fun i => h3 _ _
 have h1 : ∀ i, (r1 l i).2 ≤ 3 := fun i => by unfold r1; split; simp; split; exact h2 _; exact h2 _
 unfold scanNum; split; exact h1 _; exact h1 _
end Go.Proofs.YtbikiibpjdiaaaaDoor.Dig
/- What the pass stands on: the text behind a slice, the table, the row that is written to, the indent; white space and escapes. -/
namespace Go.Proofs.YtbikiibpjdiaaaaDoor.Err
open Go.RowKit Go.Proofs.YtbikiibpjdiaaaaDoorW.PrintWords Go.Proofs.YtbikiibpjdiaaaaDoorW.PrintLast Go.Proofs.YtbikiibpjdiaaaaDoorW.PrintMore
open Go.Proofs.YtbikiibpjdiaaaaDoor.Dig Go.Proofs.YtbikiibpjdiaaaaDoor.Tab Go.Proofs.YtbikiibpjdiaaaaDoor.QF
set_option linter.unusedVariables false
/-- How it is indented: a pointer, and what it tells; v's row lies elsewhere. -/
def IndIs (w : World) (v : Value) (ip : Value) (ind : Ind) : Prop := (ip = .pointer none ∧ ind = none) ∨
 ∃ g p i, ip = .pointer (some ⟨g, 0, none⟩) ∧ ind = some (sb p, sb i) ∧ w.heap[g]? = some (.cells #[.string p, .string i] 80 (0, 0)) ∧ v.ownBlock ≠ some g ∧ p.size ≤ 8 ∧ i.size ≤ 8
structure Ctx (N : Nat) (w : World) (v : Value) (ad : Addr) (c : Nat) (L : List Int) (ip : Value) (ind : Ind) : Prop where
 buf : Buf w ad c L
 tab : Glob w
 low : 0 < N
 size : N ≤ w.heap.size
 far : v.ownBlock ≠ some ad.block
 fmt : IndIs w v ip ind
section
variable {N : Nat} {w w' : World} {v v' : Value} {ad : Addr} {c : Nat} {L xs : List Int} {ip : Value} {ind : Ind}
theorem Buf.blk (h : Buf w ad c L) : ad.block < w.heap.size := by
 have h2 := h.at_ 0 (Int.le_refl _) (by have := h.pos; omega)
 exact World.block_lt_of_cell? w ad (by simpa [Addr.add] using h2)
theorem add_block (a : Addr) (j : Nat) : (a.add j).block = a.block := by unfold Addr.add; split <;> rfl
theorem Buf.grown {row : Option Nat} (h : Buf w ad c L) (hg : w.grownBy w' row) (hne : some ad.block ≠ row) : Buf w' ad c L := by
 refine ⟨Kd.C_of_reads (enc := Value.int .u8) (d := (0 : Int)) (h1 := fun _ => rfl) ?_, h.cap, h.bytes, h.pos, h.small, h.last⟩
 have h2 := Kd.reads_of_C (enc := Value.int .u8) (d := (0 : Int)) (h1 := fun _ => rfl) h.C
 refine ⟨h2.1, h2.2.1, fun hn => ?_⟩
 obtain ⟨ad2, e, hc⟩ := h2.2.2 hn
 cases e
 exact ⟨ad, rfl, fun j hj => hg.cell (hc j hj) (by rw [add_block]; exact hne)⟩
theorem glob_grown {row : Option Nat} (h : Glob w) (hg : w.grownBy w' row) (hne : some 0 ≠ row) : Glob w' := ⟨fun i hi => hg.cell (h.tab i hi) hne⟩
theorem Ctx.grew (h : Ctx N w v ad c L ip ind) (ho : Own N w v xs) (hg : Grew w v w' v') : Ctx N w' v' ad c L ip ind := by
 have hb := h.buf.blk
 refine ⟨h.buf.grown hg.1 (fun e => h.far e.symm), glob_grown h.tab hg.1 (fun e => ?_), h.low, Nat.le_trans h.size hg.1.size, ?_, ?_⟩
 ·have := (ho.lt 0 e.symm).1
  have := h.low
  omega
 ·rcases hg.2 with e | ⟨k, e, hk⟩
  ·rw [e]; exact h.far
  ·rw [e]; intro e2; cases e2; omega
 ·rcases h.fmt with h1 | ⟨g, p, i, h1, h2, h3, h4, h5⟩
  ·exact .inl h1
  ·refine .inr ⟨g, p, i, h1, h2, ?_, ?_, h5⟩
   ·rw [hg.1.block g (blk_lt' h3) (fun e => h4 e.symm)]; exact h3
   ·rcases hg.2 with e | ⟨k, e, hk⟩
    ·rw [e]; exact h4
    ·rw [e]; intro e2; cases e2
     have := blk_lt' h3
     omega
theorem Ctx.below (h : Ctx N w v ad c L ip ind) (ho : Own N w v xs) (hb : Below w.heap.size w w') : Ctx N w' v ad c L ip ind := h.grew ho (Grew.below hb)
theorem Ctx.txt (h : Ctx N w v ad c L ip ind) : Txt L := h.buf.txt
end
/-- How much may yet be written. -/
def Room (xs L : List Int) (x : Int) : Prop := (xs.length : Int) + 200000 * ((L.length : Int) - x) ≤ 60000000000000
/-- What a function of the pass answers: the new row and the place behind; or that it is no JSON. -/
def FmtAns (N : Nat) (w : World) (v : Value) (xs : List Int) (r : Option (Int × List Int)) (e : Ending) (w' : World) : Prop :=
 match r with
 | some (d, T) => ∃ v', e = .returned (.tuple #[v', .int .i64 d, .bool true]) ∧ Own N w' v' (xs ++ T) ∧ Grew w v w' v'
 | none => ∃ v' u, e = .returned (.tuple #[v', .int .i64 0, .bool false]) ∧ Grew w v w' u
section
variable {w : World} {ad : Addr} {c : Nat} {L : List Int}
theorem skip_f (hT : Txt L) : ∀ n : Nat, ∀ i : Int, 0 ≤ i → i < L.length → (L.length : Int) - i = n → ∃ k, gojsonformat_skipFormatSpace.f k L i = some (skp L i) := by
 intro n
 induction n with
 | zero => intro i h0 h1 hn; omega
 | succ n ih =>
  intro i h0 h1 hn
  have hsm := hT.small
  have e : wrap64 (i + 1) = i + 1 := by unfold wrap64; omega
  have hr := skp_run hT h0 h1
  by_cases hb : isBlank (rd L i)
  ·have hin := hT.inside h0 h1 (by unfold isBlank at hb; omega)
   obtain ⟨k, hf⟩ := ih (i + 1) (by omega) (by omega) (by omega)
   refine ⟨k + 1, ?_⟩
   rw [(hr.from hb).uniq (skp_run hT (by omega) (by omega))]
   unfold gojsonformat_skipFormatSpace.f at hf ⊢
   unfold gojsonformat_skipFormatSpace.l0
   rw [if_pos h0, if_pos h1, e]
   unfold isBlank at hb
   by_cases c1 : rd L i = 32
   ·rw [if_pos c1]; exact hf
   by_cases c2 : rd L i = 10
   ·rw [if_neg c1, if_pos c2]; exact hf
   by_cases c3 : rd L i = 9
   ·rw [if_neg c1, if_neg c2, if_pos c3]; exact hf
   ·rw [if_neg c1, if_neg c2, if_neg c3, if_pos (by omega)]; exact hf
  ·refine ⟨1, ?_⟩
   have e2 : skp L i = i := by
    by_cases h : skp L i = i
    ·exact h
    ·exact absurd (hr.all i (Int.le_refl _) (by have := hr.le; omega)) hb
   rw [e2]
   unfold gojsonformat_skipFormatSpace.f gojsonformat_skipFormatSpace.l0
   unfold isBlank at hb
   rw [if_pos h0, if_pos h1, if_neg (by omega), if_neg (by omega), if_neg (by omega), if_neg (by omega)]
theorem skipSp (hB : Buf w ad c L) (i : Int) (h0 : 0 ≤ i) (h1 : i < L.length) : Calls Tryd.prog 74 #[.slice (some ad) L.length c, .int .i64 i] w fun e w' => e = .returned (.int .i64 (skp L i)) ∧ Drawn0 w w' := by
 obtain ⟨k, hf⟩ := skip_f hB.txt ((L.length : Int) - i).toNat i h0 h1 (by omega)
 exact gojsonformat_skipFormatSpace.calls k (some ad) c L i _ w hB.C hB.cap hf
end
/-- An escape's end as a number. -/
def escI (L : List Int) (x : Int) : Int := match escF L x with
 | some d => d
 | none => -1
section
theorem seg_rd {L : List Int} (a b : Int) (h0 : 0 ≤ a) (hab : a ≤ b) (hb : b ≤ L.length) (k : Int) (hk : 0 ≤ k) (hk2 : k < b - a) : rd (seg L a b) k = rd L (a + k) := by
 have hl := seg_len (L := L) a b h0 hab hb
 obtain ⟨hh, e⟩ := rd_get (seg L a b) k hk (by omega)
 rw [e]
 have h2 := seg_get (L := L) a b k.toNat h0 (by omega) hb
 rw [List.getElem?_eq_getElem hh] at h2
 rw [Option.some.inj h2]
 congr 1
 omega
theorem escL_eq {L : List Int} (hT : Txt L) (x : Int) (h0 : 0 ≤ x) (h1 : x < L.length) : (if x < (L.take (L.length - 1)).length then escL (L.take (L.length - 1)) x else -1) = escI L x := by
 have hl : ((L.take (L.length - 1)).length : Int) = (L.length : Int) - 1 := by rw [List.length_take]; have := hT.pos; omega
 have hrd : ∀ k : Int, 0 ≤ k → k < (L.length : Int) - 1 → rd (L.take (L.length - 1)) k = rd L k := fun k hk hk2 => by
  obtain ⟨h2, e2⟩ := rd_get (L.take (L.length - 1)) k hk (by omega)
  obtain ⟨h3, e3⟩ := rd_get L k hk (by omega)
  rw [e2, e3]
  exact List.getElem_take
 have nz : ∀ y : Int, 0 ≤ y → y < L.length → isHex (rd L y) → y < (L.length : Int) - 1 := fun y hy hy2 hh => hT.inside hy hy2 (by unfold isHex isDig at hh; omega)
 unfold escI escF
 by_cases hx : x < (L.length : Int) - 1
 ·rw [if_pos (by omega)]
  unfold escL
  rw [hrd x h0 hx]
  by_cases he : isEsc (rd L x)
  ·rw [if_pos he, if_pos he]
  ·rw [if_neg he, if_neg he]
   by_cases hh : rd L x = 117 ∧ isHex (rd L (x + 1)) ∧ isHex (rd L (x + 2)) ∧ isHex (rd L (x + 3)) ∧ isHex (rd L (x + 4))
   ·have b1 := nz (x + 1) (by omega) (by omega) hh.2.1
    have b2 := nz (x + 2) (by omega) (by omega) hh.2.2.1
    have b3 := nz (x + 3) (by omega) (by omega) hh.2.2.2.1
    have b4 := nz (x + 4) (by omega) (by omega) hh.2.2.2.2
    rw [if_pos hh, if_pos]
    refine ⟨hh.1, by omega, ?_, ?_, ?_, ?_⟩
    ·rw [hrd _ (by omega) b1]; exact hh.2.1
    ·rw [hrd _ (by omega) b2]; exact hh.2.2.1
    ·rw [hrd _ (by omega) b3]; exact hh.2.2.2.1
    ·rw [hrd _ (by omega) b4]; exact hh.2.2.2.2
   ·rw [if_neg hh, if_neg]
    rintro ⟨a0, a5, a1, a2, a3, a4⟩
    rw [hrd _ (by omega) (by omega)] at a1 a2 a3 a4
    exact hh ⟨a0, a1, a2, a3, a4⟩
 ·rw [if_neg (by omega)]
  have e : x = (L.length : Int) - 1 := by omega
  rw [e, hT.last, if_neg (by decide), if_neg (fun h => absurd h.1 (by decide))]
theorem esc_call {w : World} {ad : Addr} {c m : Nat} {L : List Int} (hB : Buf w ad c L) (hm : m = L.length - 1) (x : Int) (h0 : 0 ≤ x) (h1 : x < L.length) :
  Calls Tryd.prog 71 #[.slice (some ad) m c, .int .i64 x] w fun e w' => e = .returned (.int .i64 (escI L x)) ∧ Drawn0 w w' := by
 have hl : (L.take (L.length - 1)).length = m := by rw [List.length_take]; omega
 have hR := Kd.C_of_reads (enc := Value.int .u8) (d := (0 : Int)) (h1 := fun _ => rfl) (ReadsOf.take_ (Kd.reads_of_C (enc := Value.int .u8) (d := (0 : Int)) (h1 := fun _ => rfl) hB.C) (L.length - 1) (by omega))
 have hc := escEnd.calls (some ad) c (L.take (L.length - 1)) x (escI L x) w (by rw [hl, hm]; exact hR) (by rw [hl]; have := hB.cap; omega) (by
  unfold escEnd.f
  rw [if_pos ⟨h0, by have := hB.small; omega⟩, escL_eq hB.txt x h0 h1])
 rw [hl] at hc
 exact hc
end
end Go.Proofs.YtbikiibpjdiaaaaDoor.Err
/- Eight bytes of a text as a word: the equations of the word's operations in the pass over a text. -/
namespace Go.Proofs.YtbikiibpjdiaaaaDoor.Err
open Go.RowKit Go.Proofs.YtbikiibpjdiaaaaDoor.QF Go.Proofs.YtbikiibpjdiaaaaDoorW.PrintWords Go.Proofs.YtbikiibpjdiaaaaDoorW.PrintLast Go.Proofs.YtbikiibpjdiaaaaDoorW.PrintMore Go.Proofs.YtbikiibpjdiaaaaDoor.Swar Go.Proofs.YtbikiibpjdiaaaaDoor.Dig Go.Proofs.YtbikiibpjdiaaaaDoor.Tab Go.Proofs.YtbikiibpjdiaaaaDoor.Key
set_option linter.unusedVariables false
theorem le64F (l : List Int) (hb : Bytes l) (i : Nat) (h : i + 8 ≤ l.length) : gojsonformat_le64.f (l.drop i) = some ((hw (nb l 8 i) : Nat) : Int) := Dig.le64_f l hb i h
/-- A byte of a text that is told by itself. -/
def Plain (b : Int) : Prop := 32 ≤ b ∧ b ≠ 34 ∧ b ≠ 92
theorem Txt.list {L : List Int} (h : Txt L) : Bytes L := by
 intro x hx
 obtain ⟨i, hi, rfl⟩ := List.mem_iff_getElem.1 hx
 have := h.bytes (i : Int) (by omega) (by omega)
 obtain ⟨_, e⟩ := rd_get L (i : Int) (by omega) (by omega)
 simp only [Int.toNat_natCast] at e
 rwa [e] at this
theorem nb_get (l : List Int) : ∀ n i j, j < n → (nb l n i).getD j 0 = (rd l ((i + j : Nat) : Int)).toNat := by
 intro n
 induction n with
 | zero => intro i j h; omega
 | succ n ih =>
  intro i j h
  cases j with
  | zero => rfl
  | succ j =>
   have := ih (i + 1) j (by omega)
   rw [show i + (j + 1) = i + 1 + j by omega, ← this]
   rfl
theorem special_plain {b : Int} (h0 : 0 ≤ b) : (special b.toNat = false → Plain b) ∧ (special b.toNat = true → ¬ Plain b) := by
 unfold special Plain
 constructor
 ·intro h
  have := of_decide_eq_false h
  omega
 ·intro h
  have := of_decide_eq_true h
  omega
theorem sub_wrap (a c : Nat) (ha : a < 18446744073709551616) (hc : c < 18446744073709551616) : IntKind.u64.wrap ((a : Int) - (c : Int)) = (((a + 18446744073709551616 - c) % 18446744073709551616 : Nat) : Int) := by
 rw [IntKind.wrap_u64]; omega
/-- The word's operations, one by one. -/
structure KeyOps (W q b s1 a1 s2 a2 o1 s3 a3 o2 m : Int) : Prop where
 e_xq : Go.bits .xor .u64 W 2459565876494606882 = q
 e_xb : Go.bits .xor .u64 W 6655295901103053916 = b
 e_s1 : IntKind.u64.wrap (q - 72340172838076673) = s1
 e_a1 : Go.bits .andNot .u64 s1 q = a1
 e_s2 : IntKind.u64.wrap (b - 72340172838076673) = s2
 e_a2 : Go.bits .andNot .u64 s2 b = a2
 e_o1 : Go.bits .or .u64 a1 a2 = o1
 e_s3 : IntKind.u64.wrap (W - 2314885530818453536) = s3
 e_a3 : Go.bits .andNot .u64 s3 W = a3
 e_o2 : Go.bits .or .u64 o1 a3 = o2
 e_m : Go.bits .and .u64 o2 9259542123273814144 = m
theorem key_ops (l : List Nat) (hl : l.length = 8) (h : Bs l) : ∃ q b s1 a1 s2 a2 o1 s3 a3 o2, KeyOps ((hw l : Nat) : Int) q b s1 a1 s2 a2 o1 s3 a3 o2 ((mask l : Nat) : Int) := by
 have lt : hw l < 18446744073709551616 := by have := hw_lt l h; rw [hl] at this; exact this
 have lq : hw (l.map (· ^^^ 34)) < 18446744073709551616 := by have := hw_lt _ (xor_bs l 34 (by decide) h); rw [len_map, hl] at this; exact this
 have ls : hw (l.map (· ^^^ 92)) < 18446744073709551616 := by have := hw_lt _ (xor_bs l 92 (by decide) h); rw [len_map, hl] at this; exact this
 have eq1 : Go.bits .xor .u64 ((hw l : Nat) : Int) 2459565876494606882 = ((hw (l.map (· ^^^ 34)) : Nat) : Int) := by
  rw [← hw_xor l 34 h (by decide), hl]
  exact bits_xor (hw l) 2459565876494606882 lt (by decide)
 have eq2 : Go.bits .xor .u64 ((hw l : Nat) : Int) 6655295901103053916 = ((hw (l.map (· ^^^ 92)) : Nat) : Int) := by
  rw [← hw_xor l 92 h (by decide), hl]
  exact bits_xor (hw l) 6655295901103053916 lt (by decide)
 have m (x : Nat) : x % 18446744073709551616 < 18446744073709551616 := Nat.mod_lt _ (by decide)
 have al (x y : Nat) (hx : x < 18446744073709551616) : x &&& y < 18446744073709551616 := Nat.lt_of_le_of_lt Nat.and_le_left hx
 have c1 := sub_wrap _ 72340172838076673 lq (by decide)
 have c2 := sub_wrap _ 72340172838076673 ls (by decide)
 have c3 := sub_wrap _ 2314885530818453536 lt (by decide)
 refine ⟨_, _, _, _, _, _, _, _, _, _, ⟨eq1, eq2, c1, Swar.bits_andNot _ _ (m _) lq, c2, Swar.bits_andNot _ _ (m _) ls, Swar.bits_or _ _ (al _ _ (m _)) (al _ _ (m _)), c3, Swar.bits_andNot _ _ (m _) lt, Swar.bits_or _ _ (Nat.or_lt_two_pow (n := 64) (al _ _ (m _)) (al _ _ (m _))) (al _ _ (m _)), ?_⟩⟩
 rw [show (9259542123273814144 : Int) = ((9259542123273814144 : Nat) : Int) from rfl, Swar.bits_and _ _ (Nat.or_lt_two_pow (n := 64) (Nat.or_lt_two_pow (n := 64) (al _ _ (m _)) (al _ _ (m _))) (al _ _ (m _))) (by decide)]
 unfold mask comp
 rw [hl]
 rfl
theorem word_at {L : List Int} (hT : Txt L) (c : Int) (h0 : 0 ≤ c) (h8 : c + 8 ≤ L.length) : ∃ W q b s1 a1 s2 a2 o1 s3 a3 o2 m, gojsonformat_le64.f (L.drop c.toNat) = some W ∧ KeyOps W q b s1 a1 s2 a2 o1 s3 a3 o2 m ∧
  ((m = 0 ∧ ∀ k, c ≤ k → k < c + 8 → Plain (rd L k)) ∨ (m ≠ 0 ∧ ∃ t j : Int, 0 ≤ j ∧ j < 8 ∧ tz64.f m = some t ∧ Int.tdiv t 8 = j ∧ (∀ k, c ≤ k → k < c + j → Plain (rd L k)) ∧ ¬ Plain (rd L (c + j)))) := by
 obtain ⟨i, rfl⟩ := Int.eq_ofNat_of_zero_le h0
 have hb := hT.list
 have hl := nb_length L 8 i
 have hbs := nb_bs L hb 8 i
 have get : ∀ j, j < 8 → (nb L 8 i).getD j 0 = (rd L ((i : Int) + j)).toNat := fun j hj => by
  rw [nb_get L 8 i j hj, show (((i + j : Nat)) : Int) = (i : Int) + j by omega]
 have pos : ∀ j : Nat, j < 8 → 0 ≤ rd L ((i : Int) + j) := fun j hj => (hT.bytes _ (by omega) (by omega)).1
 obtain ⟨q, b, s1, a1, s2, a2, o1, s3, a3, o2, hk⟩ := key_ops _ hl hbs
 refine ⟨((hw (nb L 8 i) : Nat) : Int), q, b, s1, a1, s2, a2, o1, s3, a3, o2, ((mask (nb L 8 i) : Nat) : Int), le64F L hb i (by omega), hk, ?_⟩
 by_cases hm : mask (nb L 8 i) = 0
 ·refine .inl ⟨by rw [hm]; rfl, fun k h1 h2 => ?_⟩
  obtain ⟨j, rfl⟩ : ∃ j : Nat, k = (i : Int) + j := ⟨(k - i).toNat, by omega⟩
  have hj : j < 8 := by omega
  have := mask_zero _ hbs hm ((nb L 8 i).getD j 0) (by rw [List.getD_eq_getElem?_getD, List.getElem?_eq_getElem (by omega)]; exact List.getElem_mem _)
  rw [get j hj] at this
  exact (special_plain (pos j hj)).1 this
 ·obtain ⟨j, h1, h2, h3, h4⟩ := mask_first _ hbs hm 64 (by omega)
  rw [hl] at h2
  refine .inr ⟨by omega, 8 * (j : Int) + 7, (j : Int), by omega, by omega, ?_, ?_, fun k h5 h6 => ?_, ?_⟩
  ·have hlt : mask (nb L 8 i) < 18446744073709551616 := Nat.lt_of_le_of_lt Nat.and_le_right (by rw [hl]; decide)
   unfold tz64.f
   rw [if_pos ⟨by omega, by omega⟩, Int.toNat_natCast]
   unfold Lib.ctz
   first | rw [if_neg hm, h1] | rw [h1]
   congr 1
  ·rw [Int.tdiv_eq_ediv_of_nonneg (by omega)]
   omega
  ·obtain ⟨m, rfl⟩ : ∃ m : Nat, k = (i : Int) + m := ⟨(k - i).toNat, by omega⟩
   have := h4 m (by omega)
   rw [get m (by omega)] at this
   exact (special_plain (pos m (by omega))).1 this
  ·rw [get j h2] at h3
   exact (special_plain (pos j h2)).2 h3
/-- Plain bytes of a text are written as they stand, where no sign is told by an escape. -/
theorem fs_plain {L : List Int} {b : Int} (hT : Txt L) (hb : b < L.length) : ∀ n : Nat, ∀ a : Int, 0 ≤ a → a ≤ b → (∀ k, a ≤ k → k < b → Plain (rd L k)) → b - a = n → fs L false L.length a = (fs L false L.length b).map fun r => (r.1, seg L a b ++ r.2) := by
 intro n
 induction n with
 | zero => intro a h0 h1 h2 h3; rw [show a = b by omega, seg_nil]; cases fs L false L.length b <;> rfl
 | succ n ih =>
  intro a h0 h1 h2 h3
  have hp := h2 a (Int.le_refl _) (by omega)
  unfold Plain at hp
  have e := ih (a + 1) (by omega) (by omega) (fun k h4 h5 => h2 k (by omega) h5) (by omega)
  rw [fs_fuel hT L.length (L.length + 1) a h0 (by omega) (by omega) (by omega)]
  conv => lhs; unfold fs
  rw [if_neg hp.2.1, if_neg hp.2.2, if_neg (by omega), if_neg (by simp), if_neg (by simp), e, seg_cons a b h0 (by omega) (by omega)]
  cases fs L false L.length b <;> rfl
end Go.Proofs.YtbikiibpjdiaaaaDoor.Err
