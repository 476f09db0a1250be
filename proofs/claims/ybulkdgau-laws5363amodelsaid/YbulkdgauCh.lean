/- The chain in memory while it is laid. -/
import Derived.Test.YbulkdgauRead
import Derived.Laws.Rows
import Derived.Laws.MakeOwn
import Derived.OwnWalk
namespace Go.Proofs.Ybulkdgau.Pl
open Go.RowKit

def stC (s : ByteArray) : Array Value := #[.string s, .string ⟨#[]⟩, .bool false, .string ⟨#[]⟩, .int .i64 0, .int .i64 0, .slice none 0 0]
def ndC (sb : Nat) (par : Value) : Array Value := #[.pointer (some ⟨sb, 0, none⟩), .pointer none, par, .slice none 0 0, .bool false, .bool false, .pointer none]
/-- The parent of node i, once 'up' parents are set. -/
def par (N up i : Nat) : Value := if i < up then .pointer (some ⟨N + 2 * (i + 1) + 2, 0, none⟩) else .pointer none
/-- The slice of the nodes, once j are laid. -/
def ptrAt (N j i : Nat) : Value := if i < j then .pointer (some ⟨N + 2 * i + 2, 0, none⟩) else .pointer none
def ptrRow (N n j : Nat) : Array Value := ((List.range n).map (ptrAt N j)).toArray

theorem ptrRow_size (N n j : Nat) : (ptrRow N n j).size = n := by simp [ptrRow]
theorem ptrRow_at {N n j i : Nat} (h : i < n) : (ptrRow N n j)[i]? = some (ptrAt N j i) := by simp [ptrRow, h]

theorem ptrRow_next {N n j : Nat} (hj : j < n) : (ptrRow N n j).setIfInBounds j (.pointer (some ⟨N + 2 * j + 2, 0, none⟩)) = ptrRow N n (j + 1) := by
  apply Array.ext_getElem?
  intro i
  rw [Array.getElem?_setIfInBounds]
  by_cases hi : i < n
  · rw [ptrRow_at hi, ptrRow_at hi]
    by_cases e : j = i
    · subst e
      rw [if_pos rfl, if_pos (by rw [ptrRow_size]; exact hj)]
      simp [ptrAt]
    · rw [if_neg e]
      by_cases h2 : i < j
      · simp [ptrAt, h2, show i < j + 1 by omega]
      · simp [ptrAt, h2, show ¬ i < j + 1 by omega]
  · rw [Array.getElem?_eq_none (by rw [ptrRow_size]; omega), Array.getElem?_eq_none (by rw [ptrRow_size]; omega), if_neg (by omega)]

theorem info32 : (Yba.prog.info? 32).map (fun i => (i.zero, i.size, i.bytes)) = some (some (.pointer none), 1, 8) := by kernel_rfl

theorem made_ptr (N n : Nat) : madeCells #[.pointer none] n = ptrRow N n 0 := by
  apply Array.ext_getElem?
  intro i
  by_cases h : i < n
  · rw [ptrRow_at h]
    simp [madeCells, h, Nat.mod_one, ptrAt]
  · rw [Array.getElem?_eq_none (by rw [size_madeCells]; omega), Array.getElem?_eq_none (by rw [ptrRow_size]; omega)]

theorem run_make_ptr (N n : Nat) (hn : n ≤ 1025) (w : World) : (Instr.makeSlice 28 (.int .i64 (n : Int)) (.int .i64 (n : Int))).run Yba.prog w = .ok (.slice (some ⟨w.heap.size, 0, none⟩) n n) (w.alloc (.cells (ptrRow N n 0) 32)) := by
  obtain ⟨i0, hi, hz0, hz1, hz2⟩ := info_parts info32
  have h := run_make (P := Yba.prog) w 28 32 i0 (.pointer none) Yba.underlying28 hi hz0 .i64 .i64 n n (by omega) (Int.le_refl _) (by rw [hz2]; omega) (by omega)
  rw [hz1] at h
  simp only [Int.toNat_natCast, Nat.mul_one] at h
  rw [h, ← made_ptr N n]
  rfl

theorem lt_of_heap {w : World} {b : Nat} {o : Obj} (h : w.heap[b]? = some o) : b < w.heap.size := (Array.getElem?_eq_some_iff.1 h).1
theorem heap_alloc_old {w : World} {b : Nat} {o : Obj} (h : w.heap[b]? = some o) (o' : Obj) : (w.alloc o').heap[b]? = some o := by
  show (w.heap.push o')[b]? = some o
  rw [Array.getElem?_push_lt (lt_of_heap h), ← h, Array.getElem?_eq_getElem (lt_of_heap h)]
theorem heap_new_at {w : World} {b : Nat} (o : Obj) (h : w.heap.size = b) : (w.alloc o).heap[b]? = some o := by
  subst h
  show (w.heap.push o)[w.heap.size]? = some o
  simp

/-- THE CHAIN WHILE IT IS LAID: j nodes, 'up' parents. -/
structure Ch (N n j up : Nat) (k : Nat → ByteArray) (w : World) : Prop where
  sz : w.heap.size = N + 2 * j + 1
  row : w.heap[N]? = some (.cells (ptrRow N n j) 32 (0, 0))
  st : ∀ i, i < j → w.heap[N + 2 * i + 1]? = some (.cells (stC (k i)) 38 (0, 0))
  nd : ∀ i, i < j → w.heap[N + 2 * i + 2]? = some (.cells (ndC (N + 2 * i + 1) (par N up i)) 43 (0, 0))

variable {N n j up : Nat} {k : Nat → ByteArray} {w : World}

theorem Ch.start (n : Nat) (k : Nat → ByteArray) (w : World) : Ch w.heap.size n 0 0 k (w.alloc (.cells (ptrRow w.heap.size n 0) 32)) :=
  ⟨by simp, heap_new_at _ rfl, fun i h => absurd h (Nat.not_lt_zero i), fun i h => absurd h (Nat.not_lt_zero i)⟩

/-- One node more. -/
theorem Ch.lay (h : Ch N n j 0 k w) (hj : j < n) : Ch N n (j + 1) 0 k (((w.setCell ⟨N, j, none⟩ (.pointer (some ⟨N + 2 * j + 2, 0, none⟩))).alloc (.cells (stC (k j)) 38)).alloc (.cells (ndC (N + 2 * j + 1) (.pointer none)) 43)) := by
  have hs := h.sz
  have hs' : (w.setCell ⟨N, j, none⟩ (.pointer (some ⟨N + 2 * j + 2, 0, none⟩))).heap.size = N + 2 * j + 1 := by simp [World.setCell, hs]
  refine ⟨?_, ?_, ?_, ?_⟩
  · simp [hs']
    omega
  · refine heap_alloc_old (heap_alloc_old ?_ _) _
    refine (heap_setCell_same _ N j _ 32 _ h.row).trans ?_
    rw [ptrRow_next hj]
  · intro i hi
    by_cases e : i = j
    · subst e
      exact heap_alloc_old (heap_new_at _ hs') _
    · refine heap_alloc_old (heap_alloc_old ?_ _) _
      exact (Below.heap_setCell _ _ _ _ (by show N + 2 * i + 1 ≠ N; omega)).trans (h.st i (by omega))
  · intro i hi
    by_cases e : i = j
    · subst e
      refine (heap_new_at _ (by simp [hs'])).trans ?_
      simp [par]
    · refine heap_alloc_old (heap_alloc_old ?_ _) _
      exact (Below.heap_setCell _ _ _ _ (by show N + 2 * i + 2 ≠ N; omega)).trans (h.nd i (by omega))

/-- One parent more. -/
theorem Ch.link (h : Ch N n n up k w) (hu : up + 1 < n) : Ch N n n (up + 1) k (w.setCell ⟨N + 2 * up + 2, 2, none⟩ (.pointer (some ⟨N + 2 * (up + 1) + 2, 0, none⟩))).drew := by
  refine ⟨?_, ?_, ?_, ?_⟩
  · show (w.setCell _ _).heap.size = _
    simp [World.setCell, h.sz]
  · exact (Below.heap_setCell _ _ _ _ (by show N ≠ N + 2 * up + 2; omega)).trans h.row
  · intro i hi
    exact (Below.heap_setCell _ _ _ _ (by show N + 2 * i + 1 ≠ N + 2 * up + 2; omega)).trans (h.st i hi)
  · intro i hi
    by_cases e : i = up
    · subst e
      refine (heap_setCell_same w _ 2 _ 43 _ (h.nd i hi)).trans ?_
      simp [ndC, par]
    · refine (Below.heap_setCell _ _ _ _ (by show N + 2 * i + 2 ≠ N + 2 * up + 2; omega)).trans ?_
      rw [h.nd i hi]
      have : par N up i = par N (up + 1) i := by
        unfold par
        by_cases h1 : i < up
        · rw [if_pos h1, if_pos (by omega)]
        · rw [if_neg h1, if_neg (by omega)]
      rw [this]

theorem Ch.nodes (h : Ch N n n up k w) (hu : up + 1 = n) : Nodes N n k w := by
  refine ⟨?_, ?_, ?_, ?_, ?_⟩
  · intro i hi
    refine (cell_of_row w _ _ _ _ _ h.row).trans ?_
    rw [ptrRow_at hi]
    simp [ptrAt, hi]
  · intro i hi
    exact cell_of_row w _ _ _ _ _ (h.st i hi)
  · intro i hi
    exact cell_of_row w _ _ _ _ _ (h.nd i hi)
  · intro i hi
    refine (cell_of_row w _ _ _ _ _ (h.nd i (by omega))).trans ?_
    simp [ndC, par, show i < up by omega]
  · intro i hi
    refine (cell_of_row w _ _ _ _ _ (h.nd i (by omega))).trans ?_
    simp [ndC, par, show ¬ i < up by omega]

end Go.Proofs.Ybulkdgau.Pl
