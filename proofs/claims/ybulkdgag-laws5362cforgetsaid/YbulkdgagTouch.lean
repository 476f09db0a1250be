/- The pool in memory: four blocks from B on; what a step may touch; the counts against the validators. -/
import Derived.Test.YbulkdgagMaps
import Derived.Deep.Draws
namespace Go.Proofs.Ybulkdgag.Pm
open Go.RowKit Go.ChangeMaps

theorem lt_of_heap {w : World} {b : Nat} {o : Obj} (h : w.heap[b]? = some o) : b < w.heap.size := (Array.getElem?_eq_some_iff.1 h).1

theorem heap_alloc_old {w : World} {b : Nat} {o : Obj} (h : w.heap[b]? = some o) (o' : Obj) : (w.alloc o').heap[b]? = some o := by
  show (w.heap.push o')[b]? = some o
  rw [Array.getElem?_push_lt (lt_of_heap h), ← h, Array.getElem?_eq_getElem (lt_of_heap h)]

theorem heap_alloc_new' (w : World) (o : Obj) : (w.alloc o).heap[w.heap.size]? = some o := by
  show (w.heap.push o)[w.heap.size]? = some o
  simp

/-! ### what a step may touch -/
/-- w' IS w BUT FOR BLOCKS IN T AND NEW ONES. -/
structure Touch (T : Nat → Prop) (w w' : World) : Prop where
  os : w'.os = w.os
  tape : w'.tape = w.tape
  output : w'.output = w.output
  size : w.heap.size ≤ w'.heap.size
  block : ∀ b, b < w.heap.size → ¬ T b → w'.heap[b]? = w.heap[b]?

variable {T T' : Nat → Prop} {w w' w'' : World}

theorem Touch.refl (T : Nat → Prop) (w : World) : Touch T w w := ⟨rfl, rfl, rfl, Nat.le_refl _, fun _ _ _ => rfl⟩
theorem Touch.trans (h : Touch T w w') (k : Touch T w' w'') : Touch T w w'' :=
  ⟨k.os.trans h.os, k.tape.trans h.tape, k.output.trans h.output, Nat.le_trans h.size k.size, fun b hb hT => (k.block b (Nat.lt_of_lt_of_le hb h.size) hT).trans (h.block b hb hT)⟩
theorem Touch.mono (h : Touch T w w') (hT : ∀ b, T b → T' b) : Touch T' w w' := ⟨h.os, h.tape, h.output, h.size, fun b hb hn => h.block b hb (fun ht => hn (hT b ht))⟩
theorem Touch.alloc (h : Touch T w w') (o : Obj) : Touch T w (w'.alloc o) :=
  h.trans ⟨rfl, rfl, rfl, by simp, fun b hb _ => Below.heap_alloc _ _ _ hb⟩
theorem Touch.drew (h : Touch T w w') : Touch T w w'.drew := ⟨h.os, h.tape, h.output, h.size, h.block⟩
theorem Touch.drewN (h : Touch T w w') (n : Nat) : Touch T w (w'.drewN n) := ⟨h.os, h.tape, h.output, h.size, h.block⟩
theorem Touch.setCell (h : Touch T w w') {a : Addr} (ha : T a.block) (v : Value) : Touch T w (w'.setCell a v) :=
  h.trans ⟨rfl, rfl, rfl, by simp [World.setCell], fun b _ hn => Below.heap_setCell _ _ _ _ (fun e => hn (e ▸ ha))⟩
theorem Touch.setBlock {b : Nat} {es : Array MapEntry} {clock : Nat} (h : Touch T w w') (hb : w'.heap[b]? = some (.map es clock)) (hT : T b) (o : Obj) : Touch T w (setBlock w' b o) :=
  h.trans ⟨rfl, rfl, rfl, by simp [ChangeMaps.setBlock], fun i _ hn => heap_setBlock_other hb _ (fun e => hn (e ▸ hT))⟩
theorem Touch.heap {b : Nat} {o : Obj} (h : Touch T w w') (hb : w.heap[b]? = some o) (hT : ¬ T b) : w'.heap[b]? = some o := (h.block b (lt_of_heap hb) hT).trans hb
theorem Touch.below {B : Nat} (h : Touch T w w') (hB : B ≤ w.heap.size) (hT : ∀ b, T b → B ≤ b) : Below B w w' :=
  ⟨h.os, h.tape, h.output, h.size, fun b hb => h.block b (Nat.lt_of_lt_of_le hb hB) (fun ht => by have := hT b ht; omega)⟩
theorem Touch.of_below (h : Below w.heap.size w w') : Touch T w w' := ⟨h.os, h.tape, h.output, h.size, fun b hb _ => h.block b hb⟩
theorem Touch.grown {row : Option Nat} (h : Touch T w w') (hg : w'.grownBy w'' row) (hr : ∀ k, row = some k → T k) : Touch T w w'' :=
  h.trans ⟨hg.os, hg.tape, hg.output, hg.size, fun b hb hn => hg.block b hb (fun e => hn (hr b e.symm))⟩

/-! ### the counts -/
/-- How many of the keys are against validator i. -/
def cnt (S : List Key) (i : Nat) : Int := ((S.countP fun x => decide (x.1 = (i : Int))) : Nat)
def agRow (nv : Nat) (S : List Key) : Array Value := ((List.range nv).map fun i => Value.int .i64 (cnt S i)).toArray

theorem cnt_bd (S : List Key) (i : Nat) : 0 ≤ cnt S i ∧ cnt S i ≤ S.length := by
  unfold cnt
  have := List.countP_le_length (p := fun x : Key => decide (x.1 = (i : Int))) (l := S)
  omega

theorem cnt_nil (i : Nat) : cnt [] i = 0 := rfl

theorem cnt_snoc (S : List Key) (k : Key) (i : Nat) : cnt (S ++ [k]) i = cnt S i + if k.1 = (i : Int) then 1 else 0 := by
  unfold cnt
  rw [List.countP_append]
  by_cases h : k.1 = (i : Int) <;> simp [h]

theorem delK_none {S : List Key} {k : Key} (h : k ∉ S) : delK S k = S := by
  unfold delK
  rw [List.filter_eq_self]
  intro x hx
  have : x ≠ k := fun e => h (e ▸ hx)
  simp [this]

theorem countP_delK (p : Key → Bool) {k : Key} : ∀ {S : List Key}, S.Nodup → k ∈ S → S.countP p = (delK S k).countP p + if p k = true then 1 else 0
  | [], _, h => by cases h
  | x :: r, hn, h => by
    obtain ⟨h1, h2⟩ := List.nodup_cons.1 hn
    by_cases e : x = k
    · subst e
      have : delK (x :: r) x = r := by
        have e1 : delK (x :: r) x = delK r x := by simp [delK]
        rw [e1, delK_none h1]
      rw [this, List.countP_cons]
    · have hr : k ∈ r := by
        rcases List.mem_cons.1 h with h | h
        · exact absurd h.symm e
        · exact h
      have ih := countP_delK p h2 hr
      have e1 : delK (x :: r) k = x :: delK r k := by simp [delK, e]
      rw [e1, List.countP_cons, List.countP_cons, ih]
      omega

theorem cnt_delK {S : List Key} {k : Key} (hn : S.Nodup) (h : k ∈ S) (i : Nat) : cnt (delK S k) i = cnt S i - if k.1 = (i : Int) then 1 else 0 := by
  unfold cnt
  rw [countP_delK (fun x => decide (x.1 = (i : Int))) hn h]
  by_cases e : k.1 = (i : Int) <;> simp [e]

theorem length_delK {S : List Key} {k : Key} (hn : S.Nodup) (h : k ∈ S) : S.length = (delK S k).length + 1 := by
  have := countP_delK (fun _ => true) hn h
  simpa using this

theorem agRow_size (nv : Nat) (S : List Key) : (agRow nv S).size = nv := by simp [agRow]
theorem agRow_at {nv : Nat} (S : List Key) {i : Nat} (h : i < nv) : (agRow nv S)[i]? = some (.int .i64 (cnt S i)) := by
  simp [agRow, h]

theorem agRow_of {nv : Nat} {S S' : List Key} {v c : Int} (h : cnt S' v.toNat = c) (ho : ∀ i : Nat, v ≠ (i : Int) → cnt S' i = cnt S i) :
    (agRow nv S).setIfInBounds v.toNat (.int .i64 c) = agRow nv S' := by
  apply Array.ext_getElem?
  intro i
  rw [Array.getElem?_setIfInBounds]
  by_cases hi : i < nv
  · split
    · rename_i e
      subst e
      rw [agRow_at S' hi, h, if_pos (by rw [agRow_size]; exact hi)]
    · rename_i e
      rw [agRow_at S hi, agRow_at S' hi, ho i (fun e' => e (by omega))]
  · have e1 : (agRow nv S')[i]? = none := by rw [Array.getElem?_eq_none]; rw [agRow_size]; omega
    have e2 : (agRow nv S)[i]? = none := by rw [Array.getElem?_eq_none]; rw [agRow_size]; omega
    rw [e1, e2]
    split
    · split
      · rename_i h2
        rw [agRow_size] at h2
        exact absurd h2 (by omega)
      · rfl
    · rfl

/-! ### the pool -/
/-- THE POOL: block B the pending pieces, B + 1 the counts, B + 2 the carried steps, B + 3 the struct. -/
structure Pool (B nv : Nat) (S C : List Key) (w : World) : Prop where
  pend : ∃ es clock, w.heap[B]? = some (.map es clock) ∧ Keys es S (fun _ => True)
  agn : w.heap[B + 1]? = some (.cells (agRow nv S) 3 (0, 0))
  carr : ∃ es clock, w.heap[B + 2]? = some (.map es clock) ∧ Keys es C (· = .bool true)
  pool : w.heap[B + 3]? = some (.cells #[.map (some B), .slice (some ⟨B + 1, 0, none⟩) nv nv, .map (some (B + 2))] 39 (0, 0))

variable {B nv : Nat} {S C : List Key}

theorem Pool.lt (h : Pool B nv S C w) : B + 3 < w.heap.size := lt_of_heap h.pool
theorem Pool.c0 (h : Pool B nv S C w) : w.cell? ⟨B + 3, 0, none⟩ = some (.map (some B)) := cell_of_row w _ _ _ _ _ h.pool
theorem Pool.c1 (h : Pool B nv S C w) : w.cell? ⟨B + 3, 1, none⟩ = some (.slice (some ⟨B + 1, 0, none⟩) nv nv) := cell_of_row w _ _ _ _ _ h.pool
theorem Pool.c2 (h : Pool B nv S C w) : w.cell? ⟨B + 3, 2, none⟩ = some (.map (some (B + 2))) := cell_of_row w _ _ _ _ _ h.pool
theorem Pool.ag (h : Pool B nv S C w) {i : Nat} (hi : i < nv) : w.cell? ⟨B + 1, i, none⟩ = some (.int .i64 (cnt S i)) := (cell_of_row w _ _ _ _ _ h.agn).trans (agRow_at S hi)
theorem Pool.agf (h : Pool B nv S C w) (i : Nat) : w.frozen? ⟨B + 1, i, none⟩ = false := frozen_of_row w _ _ _ _ h.agn

/-- What touches none of the four blocks keeps the pool. -/
theorem Pool.kept (h : Pool B nv S C w) (ht : Touch T w w') (hT : ∀ b, T b → B + 3 < b) : Pool B nv S C w' := by
  obtain ⟨⟨es, clock, hb, hS⟩, hag, ⟨ec, cc, hb2, hC⟩, hp⟩ := h
  exact ⟨⟨es, clock, ht.heap hb (fun h => by have := hT _ h; omega), hS⟩, ht.heap hag (fun h => by have := hT _ h; omega), ⟨ec, cc, ht.heap hb2 (fun h => by have := hT _ h; omega), hC⟩, ht.heap hp (fun h => by have := hT _ h; omega)⟩
theorem Pool.alloc (h : Pool B nv S C w) (o : Obj) : Pool B nv S C (w.alloc o) := h.kept (T := fun _ => False) ((Touch.refl _ _).alloc o) (fun _ h => h.elim)
theorem Pool.drewN (h : Pool B nv S C w) (n : Nat) : Pool B nv S C (w.drewN n) := ⟨h.pend, h.agn, h.carr, h.pool⟩
theorem Pool.drew (h : Pool B nv S C w) : Pool B nv S C w.drew := ⟨h.pend, h.agn, h.carr, h.pool⟩

theorem zero33 (w : World) : (zeroValue 33).run Yba.prog w = .ok (.pointer none) w := by kernel_rfl
theorem zero4 (w : World) : (zeroValue 4).run Yba.prog w = .ok (.bool false) w := by kernel_rfl

end Go.Proofs.Ybulkdgag.Pm
