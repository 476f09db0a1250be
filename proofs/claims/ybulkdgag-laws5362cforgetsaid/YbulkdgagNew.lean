/- The walks of 'newEvidencePool' and 'zzs5362ckey'. -/
import Derived.Test.YbulkdgagTouch
import Derived.RegionTactic
import Derived.BigRegion
import Derived.ChangeAlike
import Derived.BigQuiet
import Derived.Deep.QuietTactic
namespace Go.Proofs.Ybulkdgag.Pm
open Go.RowKit Go.ChangeMaps

theorem info3 : (Yba.prog.info? 3).map (fun i => (i.zero, i.size, i.bytes)) = some (some (.int .i64 0), 1, 8) := by kernel_rfl

theorem made_ag (nv : Nat) : madeCells #[.int .i64 0] nv = agRow nv [] := by
  apply Array.ext_getElem?
  intro i
  by_cases h : i < nv
  · rw [agRow_at [] h, cnt_nil]
    simp [madeCells, h, Nat.mod_one]
  · rw [Array.getElem?_eq_none (by rw [size_madeCells]; omega), Array.getElem?_eq_none (by rw [agRow_size]; omega)]

theorem run_make_ag (nv : Nat) (hn : nv ≤ 8) (w : World) : (Instr.makeSlice 36 (.int .i64 (nv : Int)) (.int .i64 (nv : Int))).run Yba.prog w = .ok (.slice (some ⟨w.heap.size, 0, none⟩) nv nv) (w.alloc (.cells (agRow nv []) 3)) := by
  obtain ⟨i0, hi, hz0, hz1, hz2⟩ := info_parts info3
  have h := run_make (P := Yba.prog) w 36 3 i0 (.int .i64 0) Yba.underlying36 hi hz0 .i64 .i64 nv nv (by omega) (Int.le_refl _) (by rw [hz2]; omega) (by omega)
  rw [hz1] at h
  simp only [Int.toNat_natCast, Nat.mul_one] at h
  rw [h, ← made_ag]
  rfl

theorem heap_new_at {w : World} {b : Nat} (o : Obj) (h : w.heap.size = b) : (w.alloc o).heap[b]? = some o := by subst h; exact heap_alloc_new' w o

theorem new_pool (w : World) (nv : Nat) : Pool w.heap.size nv [] [] ((((w.alloc (.map #[] 0)).alloc (.cells (agRow nv []) 3)).alloc (.map #[] 0)).alloc
    (.cells #[.map (some w.heap.size), .slice (some ⟨w.heap.size + 1, 0, none⟩) nv nv, .map (some (w.heap.size + 1 + 1))] 39)) := by
  refine ⟨⟨#[], 0, ?_, keys_none _⟩, ?_, ⟨#[], 0, ?_, keys_none _⟩, ?_⟩
  · exact heap_alloc_old (heap_alloc_old (heap_alloc_old (heap_new_at _ rfl) _) _) _
  · exact heap_alloc_old (heap_alloc_old (heap_new_at _ (by simp)) _) _
  · exact heap_alloc_old (heap_new_at _ (by simp)) _
  · exact heap_new_at _ (by simp)

set_option maxHeartbeats 1000000 in
theorem new_any (nv : Nat) (w : World) (hn : nv ≤ 8) :
    Calls Yba.prog 8 #[.int .i64 (nv : Int)] w fun e w' => e = .returned (.pointer (some ⟨w.heap.size + 3, 0, none⟩)) ∧ Pool w.heap.size nv [] [] w' ∧ w'.heap.size = w.heap.size + 4 ∧ Below w.heap.size w w' := by
  have hmm := @run_makeMap Yba.prog
  have hmk := run_make_ag nv hn
  go_enter Yba.func8, Yba.ntmps8
  go_wp2
  go_ret
  exact ⟨rfl, new_pool w nv, by simp, (((((Below.refl _ w).alloc (Nat.le_refl _) _).alloc (by simp) _).alloc (by simp; omega) _).alloc (by simp; omega) _)⟩

set_option maxHeartbeats 1000000 in
theorem key_any (v h r t nv : Int) (w : World) (h0 : 0 ≤ v) (h1 : v ≤ 255) (n0 : 1 ≤ nv) (n1 : nv ≤ 8) :
    Calls Yba.prog 6 #[.agg #[.int .u8 v, .int .i64 h, .int .i32 r, .int .u8 t], .int .i64 nv] w fun e w' =>
      e = .returned (.agg #[.int .i64 (v % nv), .int .i64 h, .int .i32 r, .int .u8 t]) ∧ Below w.heap.size w w' := by
  go_enter Yba.func6, Yba.ntmps6
  go_wp2
  go_region
  go_wp2
  exact bodyPost_ret (v := .agg #[.int .i64 (v % nv), .int .i64 h, .int .i32 r, .int .u8 t]) (by simp [results, Yba.results6, go_sem]) rfl ⟨rfl, (((Below.refl _ w).alloc (Nat.le_refl _) _).alloc (by simp) _).drew⟩

end Go.Proofs.Ybulkdgag.Pm
