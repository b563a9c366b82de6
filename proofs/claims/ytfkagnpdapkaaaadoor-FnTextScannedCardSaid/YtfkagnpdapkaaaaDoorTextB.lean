/- What the laws on texts share: an error of whatever kind, what the scanner tells of a text. -/
import Derived.Test.YtfkagnpdapkaaaaDoorValueB
import Derived.Test.YtfkagnpdapkaaaaDoorScT
namespace Go.Proofs.YtfkagnpdapkaaaaDoor.Err
open Go.RowKit Go.Proofs.YtfkagnpdapkaaaaDoorW.PrintWords Go.Proofs.YtfkagnpdapkaaaaDoorW.PrintLast Go.Proofs.YtfkagnpdapkaaaaDoorW.PrintMore
open Go.Proofs.YtfkagnpdapkaaaaDoor.Dig Go.Proofs.YtfkagnpdapkaaaaDoor.Tab Go.Proofs.YtfkagnpdapkaaaaDoor.QF Go.Proofs.YtfkagnpdapkaaaaDoor.QL
set_option linter.unusedVariables false
section
variable {q : ByteArray → ByteArray}
set_option maxRecDepth 100000 in
theorem errorStartAny (g : Nat) (va : Int) (w : World) (h3 : w.cell? ⟨g, 3, none⟩ = some (.int .i64 va)) : Calls Tryd.prog 73 #[.iface 86 (.pointer (some ⟨g, 0, none⟩))] w fun e w' => (∃ sa sb, e = .returned (.tuple #[.int .i64 sa, .bool sb])) ∧ w = w' := by
  have hta := ta g
  by_cases hz : va = 0
  · subst hz
    go_enter Tryd.func73, Tryd.ntmps73
    go_wp2
    go_ret2
    exact ⟨⟨_, _, rfl⟩, rfl⟩
  · have f1 : (va == 0) = false := beq_eq_false_iff_ne.mpr hz
    clear hz
    go_enter Tryd.func73, Tryd.ntmps73
    go_wp2
    go_ret2
    exact ⟨⟨_, _, rfl⟩, rfl⟩
set_option maxRecDepth 100000 in
set_option maxHeartbeats 4000000 in
theorem faultAny (g : Nat) (s : SE) (w : World) (h : PT w g s) : Calls Tryd.prog 49 #[.iface 86 (.pointer (some ⟨g, 0, none⟩))] w fun e w' => (∃ sa sb, e = .returned (.tuple #[.agg #[.bool true, .int .i64 s.off, .string s.msg, .bool s.atEnd, .bool sb, .int .i64 sa], .bool true])) ∧ Below w.heap.size w w' := by
  have hlt := blk_lt' h
  obtain ⟨h0, h1, h2, h3⟩ := pt_cells h
  have H := Aside0.mk h
  have hta := ta g
  clear h
  go_enter Tryd.func49, Tryd.ntmps49
  go_upto_region 6 with (fail)
  go_region_held3 (fun w' => w'.cell? ⟨g, 0, none⟩ = some (.string s.msg) ∧ w'.cell? ⟨g, 1, none⟩ = some (.int .i64 s.off) ∧ w'.cell? ⟨g, 2, none⟩ = some (.bool s.atEnd) ∧ w'.cell? ⟨g, 3, none⟩ = some (.int .i64 s.va)) (go_keep) (first | (go_at_call 71; refine (errorText g s.msg _ ?_).mono ?_; (simp [*]); rintro e w' ⟨rfl, rfl⟩) | (go_at_call 72; refine (errorAtEnd g s.atEnd _ ?_).mono ?_; (simp [*]); rintro e w' ⟨rfl, rfl⟩))
  all_goals
    rename_i hS
    obtain ⟨k0, k1, k2, k3⟩ := hS
    have K3 := Aside0.mk k3
    clear k0 k1 k2 k3
    go_wp2_with fail
    with_reducible refine (errorStartAny g s.va _ K3.out).mono ?_
    rintro e w' ⟨⟨sa, sb, rfl⟩, rfl⟩
    go_wp2_with fail
    refine bodyPost_ret (v := .tuple #[.agg #[.bool true, .int .i64 s.off, .string s.msg, .bool s.atEnd, .bool sb, .int .i64 sa], .bool true]) (by simp [results, Tryd.results49, go_sem]) rfl ?_
    exact ⟨⟨sa, sb, rfl⟩, (below_alloc (below_alloc (Below.refl _ _) _) _).drew⟩
theorem ends_done {L : List Int} {x d : Int} (hT : Txt L) (h0 : 0 ≤ x) (h1 : x < L.length) (hq : rd L x = 34) (h : Ends q L .text (x + 1) d) : out q L .val [] x = .done d := by
  rw [(val_text (q := q) (st := []) hT h0 h1 hq).1, h]
  exact if_pos rfl
theorem bad_fault {L : List Int} {x : Int} {s : SE} (hT : Txt L) (h0 : 0 ≤ x) (h1 : x < L.length) (hq : rd L x = 34) (h : Bad q L .text (x + 1) s) : out q L .val [] x = .fault s := by
  rw [(val_text (q := q) (st := []) hT h0 h1 hq).1, h]
end
end Go.Proofs.YtfkagnpdapkaaaaDoor.Err
