/- What the walks of 'LawS5362CForget' share. -/
import Derived.Test.YbulkdgagCopy
namespace Go.Proofs.Ybulkdgag.Pm
open Go.RowKit Go.ChangeMaps

theorem build_as (nv : Nat) (ao : Option Addr) (len cap : Nat) (X : Nat → Key) (w : World) (B : Nat) (hB : w.heap.size = B) (hn0 : 1 ≤ nv) (hn : nv ≤ 8) (hlen : len ≤ 1024) (hX : In ao len X w) (K : Nat → Key) (hK : K = fun i => keyOfStep nv (X i)) :
    Calls Yba.prog 5 #[.int .i64 (nv : Int), .slice ao len cap] w fun e w' => e = .returned (.tuple #[.pointer (some ⟨B + 3, 0, none⟩), .slice (some ⟨B + 4, 0, none⟩) len len]) ∧
      Pool B nv (sOf K len) (cOf K len) w' ∧ Ks (B + 4) len len K w' ∧ Below B w w' := by
  subst hB
  subst hK
  exact build_any nv ao len cap X w hn0 hn hlen hX

theorem In.alloc {ao : Option Addr} {len : Nat} {X : Nat → Key} {w : World} (h : In ao len X w) (o : Obj) : In ao len X (w.alloc o) := by
  refine ⟨fun i hi => ?_, h.wf⟩
  obtain ⟨b, off, e, hb, c0, c1, c2, c3⟩ := h.at_ i hi
  have hx : ∀ off', (w.alloc o).cell? ⟨b, off', none⟩ = w.cell? ⟨b, off', none⟩ := fun off' => ((Below.refl w.heap.size w).alloc (Nat.le_refl _) o).cell (p := ⟨b, off', none⟩) hb
  exact ⟨b, off, e, by simp; omega, (hx _).trans c0, (hx _).trans c1, (hx _).trans c2, (hx _).trans c3⟩

theorem set4 {w : World} {b : Nat} {c0 c1 c2 c3 : Value} {ty : TypeId} (a0 a1 a2 a3 : Value) (h : w.heap[b]? = some (.cells #[c0, c1, c2, c3] ty (0, 0))) :
    ((((w.setCell ⟨b, 0, none⟩ a0).setCell ⟨b, 1, none⟩ a1).setCell ⟨b, 2, none⟩ a2).setCell ⟨b, 3, none⟩ a3).heap[b]? = some (.cells #[a0, a1, a2, a3] ty (0, 0)) ∧
    Touch (fun x => x = b) w ((((w.setCell ⟨b, 0, none⟩ a0).setCell ⟨b, 1, none⟩ a1).setCell ⟨b, 2, none⟩ a2).setCell ⟨b, 3, none⟩ a3) := by
  refine ⟨?_, ((((Touch.refl (fun x => x = b) w).setCell rfl _).setCell rfl _).setCell rfl _).setCell rfl _⟩
  have h0 := heap_setCell_same w b 0 _ ty a0 h
  have h1 := heap_setCell_same _ b 1 _ ty a1 h0
  have h2 := heap_setCell_same _ b 2 _ ty a2 h1
  have h3 := heap_setCell_same _ b 3 _ ty a3 h2
  exact h3

end Go.Proofs.Ybulkdgag.Pm
