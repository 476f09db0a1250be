/- 'copy(ag, p.against)' and 'ag := make([]int, len(p.against))' as laws for the walk; what the law's sums come to. -/
import Derived.Test.YbulkdgagEmptyWalk
import Derived.Laws.CopyOwn
namespace Go.Proofs.Ybulkdgag.Pm
open Go.RowKit Go.ChangeMaps

theorem size3 : (Yba.prog.info? 3).map (·.size) = some 1 := by kernel_rfl

theorem run_copy_ag (w : World) (ty : TypeId) (g b nv : Nat) (S : List Key) (hgr : w.heap[g]? = some (.cells (agRow nv []) 3 (0, 0))) (hbr : w.heap[b]? = some (.cells (agRow nv S) 3 (0, 0))) :
    (Builtin.copy_ #[36, 36] ty #[.slice (some ⟨g, 0, none⟩) nv nv, .slice (some ⟨b, 0, none⟩) nv nv]).run Yba.prog w = .ok (goInt nv) (w.setRow g (agRow nv S)) := by
  have hl : (agRow nv S).toList.length = nv := by simpa using agRow_size nv S
  have e : ((agRow nv []).toList.take 0 ++ (agRow nv S).toList ++ (agRow nv []).toList.drop (0 + (agRow nv S).toList.length)).toArray = agRow nv S := by
    rw [hl, List.drop_eq_nil_of_le (by simp [agRow_size])]
    simp
  have h := run_copy_row (P := Yba.prog) w 36 36 ty 3 g 0 nv nv ⟨b, 0, none⟩ nv nv (agRow nv []) 3 (agRow nv S).toList Yba.underlying36 size3 hgr (by rw [hl]; exact (Nat.min_self nv).symm)
    (fun j v hj => by
      rw [Addr.add_lit, Nat.zero_add, cell_of_row w _ _ _ _ _ hbr]
      simpa using hj)
    (by rw [hl, agRow_size]; omega)
    (fun v hv => by
      simp [agRow] at hv
      obtain ⟨i, _, rfl⟩ := hv
      rfl)
  rw [e, hl] at h
  exact h

theorem copied {w : World} {g nv : Nat} {S : List Key} (hgr : w.heap[g]? = some (.cells (agRow nv []) 3 (0, 0))) : (w.setRow g (agRow nv S)).heap[g]? = some (.cells (agRow nv S) 3 (0, 0)) ∧ Touch (fun x => x = g) w (w.setRow g (agRow nv S)) :=
  ⟨setRow_heap w g _ _ 3 _ hgr, ⟨rfl, rfl, rfl, by simp, fun i _ hi => setRow_other w g i _ (fun e => hi e)⟩⟩

end Go.Proofs.Ybulkdgag.Pm
