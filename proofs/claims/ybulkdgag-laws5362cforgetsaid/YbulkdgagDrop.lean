/- The walk of '(*evidencePool).drop'. -/
import Derived.Test.YbulkdgagTouch
import Derived.RegionTactic
import Derived.BigRegion
import Derived.ChangeAlike
import Derived.BigQuiet
import Derived.Deep.QuietTactic
namespace Go.Proofs.Ybulkdgag.Pm
open Go.RowKit Go.ChangeMaps

set_option maxHeartbeats 1000000 in
theorem drop_yes (B nv : Nat) (S C : List Key) (k : Key) (w : World) (hP : Pool B nv S C w) (hk : wfK k) (hv : 0 ≤ k.1) (hv' : k.1 < nv) (hn : nv ≤ 8) (hl : S.length ≤ 1024) (hin : k ∈ S) :
    Calls Yba.prog 7 #[.pointer (some ⟨B + 3, 0, none⟩), .agg #[.int .i64 k.1, .int .i64 k.2.1, .int .i32 k.2.2.1, .int .u8 k.2.2.2]] w fun e w' =>
      e = .returned (.tuple #[]) ∧ Pool B nv (delK S k) C w' ∧ Touch (fun b => b = B ∨ b = B + 1) w w' := by
  have hP' := hP
  obtain ⟨⟨es, clock, hb, hS⟩, hag, ⟨ec, cc, hb2, hC⟩, hp⟩ := hP
  have hB3 := lt_of_heap hp
  obtain ⟨v, hlook⟩ := hS.look_ok (b := B) (clock := clock) Yba.underlying35 zero33 hk
  have hin' : decide (k ∈ S) = true := by simpa using hin
  rw [hin'] at hlook
  have hl1 : ∀ nq o, (Instr.lookup 35 (.map (some B)) (.agg #[.int .i64 k.1, .int .i64 k.2.1, .int .i32 k.2.2.1, .int .u8 k.2.2.2]) true).run Yba.prog ((w.alloc o).drewN nq) = .ok (.tuple #[v, .bool true]) ((w.alloc o).drewN nq) :=
    fun nq o => hlook _ (heap_alloc_old hb o)
  have hc0 := hP'.c0
  have hc1 := hP'.c1
  obtain ⟨es', hS', hdel⟩ := hS.drop (b := B) (clock := clock) Yba.underlying35 hk hin 0
  have hd1 : ∀ nq o, (Builtin.delete_ #[35, 31] 0 #[.map (some B), .agg #[.int .i64 k.1, .int .i64 k.2.1, .int .i32 k.2.2.1, .int .u8 k.2.2.2]]).run Yba.prog ((w.alloc o).drewN nq) = .ok (.tuple #[]) (setBlock ((w.alloc o).drewN nq) B (.map es' clock)) :=
    fun nq o => hdel _ (heap_alloc_old hb o)
  have hnd := hS.nodup
  clear hlook hin' hdel
  go_enter Yba.func7, Yba.ntmps7
  go_wp2
  go_quiet (fail)
  go_wp2
  clear hl1
  go_region
  go_wp2
  clear hd1 hc0 hc1
  -- THE WORLD BEHIND THE DELETE, UNDER ONE NAME
  generalize hW1 : setBlock _ B (.map es' clock) = w1
  have hbo : ((w.alloc (.cells #[.int .i64 k.1, .int .i64 k.2.1, .int .i32 k.2.2.1, .int .u8 k.2.2.2] 31)).drewN (nq + 1)).heap[B]? = some (.map es clock) := heap_alloc_old hb _
  have ht1 : Touch (fun b => b = B ∨ b = B + 1) w w1 := by
    rw [← hW1]
    exact (((Touch.refl _ w).alloc _).drewN _).setBlock hbo (Or.inl rfl) _
  have hx0 : w1.heap[B]? = some (.map es' clock) := by rw [← hW1]; exact heap_setBlock_same hbo _
  have hx1 : w1.heap[B + 1]? = some (.cells (agRow nv S) 3 (0, 0)) := by
    rw [← hW1, heap_setBlock_other hbo _ (by omega)]
    exact heap_alloc_old hag _
  have hx3 := ht1.heap hp (by omega)
  have hx2 := ht1.heap hb2 (by omega)
  have hxk : w1.heap[w.heap.size]? = some (.cells #[.int .i64 k.1, .int .i64 k.2.1, .int .i32 k.2.2.1, .int .u8 k.2.2.2] 31 (0, 0)) := by
    rw [← hW1, heap_setBlock_other hbo _ (by omega)]
    exact heap_alloc_new' _ _
  clear hW1 hbo
  have d1 : w1.cell? ⟨B + 3, 1, none⟩ = some (.slice (some ⟨B + 1, 0, none⟩) nv nv) := cell_of_row w1 _ _ _ _ _ hx3
  have dk : w1.cell? ⟨w.heap.size, 0, none⟩ = some (.int .i64 k.1) := cell_of_row w1 _ _ _ _ _ hxk
  have hkn : k.1.toNat < nv := by omega
  obtain ⟨c, hc⟩ : ∃ c, c = cnt S k.1.toNat := ⟨_, rfl⟩
  have hcb := cnt_bd S k.1.toNat
  rw [← hc] at hcb
  obtain ⟨hcb0, hcb1⟩ := hcb
  have hcb2 : c ≤ 1024 := by omega
  have da : w1.cell? ⟨B + 1, k.1.toNat, none⟩ = some (.int .i64 c) := by rw [hc]; exact (cell_of_row w1 _ _ _ _ _ hx1).trans (agRow_at S hkn)
  have df : w1.frozen? ⟨B + 1, k.1.toNat, none⟩ = false := frozen_of_row w1 _ _ _ _ hx1
  have HC : Hid (c = cnt S k.1.toNat) := hc
  clear hc hcb1 hag hb hb2 hp hP' hB3
  go_region
  go_end0
  refine ⟨rfl, ⟨⟨es', clock, ?_, hS'⟩, ?_, ⟨ec, cc, ?_, hC⟩, ?_⟩, (ht1.setCell (Or.inr rfl) _).drew⟩
  · exact (Below.heap_setCell _ _ _ _ (by show B ≠ B + 1; omega)).trans hx0
  · refine (heap_setCell_same w1 (B + 1) k.1.toNat _ 3 _ hx1).trans ?_
    rw [agRow_of (S' := delK S k)]
    · rw [cnt_delK hnd hin, HC.out, if_pos (by omega)]
    · intro i hi
      rw [cnt_delK hnd hin, if_neg hi]
      omega
  · exact (Below.heap_setCell _ _ _ _ (by show B + 2 ≠ B + 1; omega)).trans hx2
  · exact (Below.heap_setCell _ _ _ _ (by show B + 3 ≠ B + 1; omega)).trans hx3

set_option maxHeartbeats 1000000 in
theorem drop_no (B nv : Nat) (S C : List Key) (k : Key) (w : World) (hP : Pool B nv S C w) (hk : wfK k) (hin : k ∉ S) :
    Calls Yba.prog 7 #[.pointer (some ⟨B + 3, 0, none⟩), .agg #[.int .i64 k.1, .int .i64 k.2.1, .int .i32 k.2.2.1, .int .u8 k.2.2.2]] w fun e w' =>
      e = .returned (.tuple #[]) ∧ Pool B nv (delK S k) C w' ∧ Touch (fun b => b = B ∨ b = B + 1) w w' := by
  have hP' := hP
  obtain ⟨⟨es, clock, hb, hS⟩, hag, ⟨ec, cc, hb2, hC⟩, hp⟩ := hP
  have hB3 := lt_of_heap hp
  obtain ⟨v, hlook⟩ := hS.look_ok (b := B) (clock := clock) Yba.underlying35 zero33 hk
  have hin' : decide (k ∈ S) = false := by simpa using hin
  rw [hin'] at hlook
  have hl1 : ∀ nq o, (Instr.lookup 35 (.map (some B)) (.agg #[.int .i64 k.1, .int .i64 k.2.1, .int .i32 k.2.2.1, .int .u8 k.2.2.2]) true).run Yba.prog ((w.alloc o).drewN nq) = .ok (.tuple #[v, .bool false]) ((w.alloc o).drewN nq) :=
    fun nq o => hlook _ (heap_alloc_old hb o)
  have hc0 := hP'.c0
  clear hlook hin' hb hag hb2 hp hS hC
  rw [delK_none hin]
  go_enter Yba.func7, Yba.ntmps7
  go_wp2
  go_quiet (fail)
  go_wp2
  go_end0
  exact ⟨rfl, (hP'.alloc _).drewN _, ((Touch.refl _ w).alloc _).drewN _⟩

/-- 'drop': the key is struck where it was there; nothing turns where it was not. -/
theorem drop_any (B nv : Nat) (S C : List Key) (k : Key) (w : World) (hP : Pool B nv S C w) (hk : wfK k) (hv : 0 ≤ k.1) (hv' : k.1 < nv) (hn : nv ≤ 8) (hl : S.length ≤ 1024) :
    Calls Yba.prog 7 #[.pointer (some ⟨B + 3, 0, none⟩), .agg #[.int .i64 k.1, .int .i64 k.2.1, .int .i32 k.2.2.1, .int .u8 k.2.2.2]] w fun e w' =>
      e = .returned (.tuple #[]) ∧ Pool B nv (delK S k) C w' ∧ Touch (fun b => b = B ∨ b = B + 1) w w' := by
  by_cases hin : k ∈ S
  · exact drop_yes B nv S C k w hP hk hv hv' hn hl hin
  · exact drop_no B nv S C k w hP hk hin

end Go.Proofs.Ybulkdgag.Pm
