/- The steps that came in, opened: their cells. -/
import Derived.Test.YbulkdgagBuild
import Derived.Deep.Slices
import Derived.Lib.SmallJoins
namespace Go.Proofs.Ybulkdgag.Pm
open Go.RowKit Go.ChangeMaps

variable {H : Type} {enc : TypeId × Value → H} {W : World} {base : Nat} {spare : Nat → Bool} {held : Bool}

theorem cells24 : Yba.prog.cellsOf 24 = 4 := by kernel_rfl
theorem cells5 : Yba.prog.cellsOf 5 = 1 := by kernel_rfl

/-- One step as it came in. -/
theorem open_step {n : Nat} {cs : List Value} {x : DataW H × List MemPlace} (h : DataW.trod enc Yba.prog W base spare held n 24 cs = some x) :
    ∃ k : Key, cs = [.int .u8 k.1, .int .i64 k.2.1, .int .i32 k.2.2.1, .int .u8 k.2.2.2] ∧ x = (.agg [.lit (.int .u8 k.1), .lit (.int .i64 k.2.1), .lit (.int .i32 k.2.2.1), .lit (.int .u8 k.2.2.2)], []) ∧
      ((Lit.int .u8 k.1).wf = true ∧ (Lit.int .i64 k.2.1).wf = true ∧ (Lit.int .i32 k.2.2.1).wf = true ∧ (Lit.int .u8 k.2.2.2).wf = true) := by
  obtain ⟨y0, y1, y2, y3, m, rfl, hl, h0, h1, h2, h3⟩ := Joins.trod_struct4 Yba.underlying24 h
  rw [cells24] at hl
  match cs, hl with
  | [c0, c1, c2, c3], _ =>
    simp only [cells5, cells2, cells21] at h0 h1 h2 h3
    obtain ⟨v, e0, rfl, w0⟩ := DataW.trod_int Yba.underlying5 h0
    obtain ⟨hh, e1, rfl, w1⟩ := DataW.trod_int Yba.underlying2 h1
    obtain ⟨r, e2, rfl, w2⟩ := DataW.trod_int Yba.underlying21 h2
    obtain ⟨t, e3, rfl, w3⟩ := DataW.trod_int Yba.underlying5 h3
    simp at e0 e1 e2 e3
    subst e0 e1 e2 e3
    exact ⟨(v, hh, r, t), rfl, rfl, w0, w1, w2, w3⟩

theorem addr_none {a : Addr} {v : Value} (h : W.cell? a = some v) : a = ⟨a.block, a.off, none⟩ ∧ a.block < W.heap.size := by
  obtain ⟨b, o, sp⟩ := a
  unfold World.cell? at h
  cases hb : W.heap[b]? with
  | none => simp [hb] at h
  | some ob =>
    cases sp with
    | none => exact ⟨rfl, lt_of_heap hb⟩
    | some s => cases ob <;> simp [hb] at h

/-- THE STEPS THAT CAME IN. -/
theorem open_steps {fuel : Nat} {ao : Option Addr} {len cap : Nat} {x : DataW H × List MemPlace} (h : DataW.trod enc Yba.prog W base spare held fuel 22 [.slice ao len cap] = some x) : ∃ X, In ao len X W := by
  rcases Deep.open_slice Yba.underlying22 h with ⟨h0, _⟩ | ⟨a, len', cap', m, n, D, Pl, hcs, _, _, _, hmm, _, hx⟩
  · simp at h0
    obtain ⟨rfl, rfl, rfl⟩ := h0
    exact ⟨fun _ => (0, 0, 0, 0), ⟨fun i hi => absurd hi (Nat.not_lt_zero i), fun i hi => absurd hi (Nat.not_lt_zero i)⟩⟩
  · simp at hcs
    obtain ⟨rfl, rfl, rfl⟩ := hcs
    have hlm : len ≤ m := by rw [hmm]; split <;> omega
    rw [cells24] at hx
    have each : ∀ i, i < len → ∃ k : Key, (∀ c, c < 4 → W.cell? (a.add (i * 4 + c)) = [Value.int .u8 k.1, .int .i64 k.2.1, .int .i32 k.2.2.1, .int .u8 k.2.2.2][c]?) ∧
        ((Lit.int .u8 k.1).wf = true ∧ (Lit.int .i64 k.2.1).wf = true ∧ (Lit.int .i32 k.2.2.1).wf = true ∧ (Lit.int .u8 k.2.2.2).wf = true) := by
      intro i hi
      obtain ⟨cs', h1, h2⟩ := hx i (by omega)
      obtain ⟨_, _, hcell⟩ := World.cells?_some h1
      obtain ⟨k, rfl, _, hw⟩ := open_step h2
      refine ⟨k, fun c hc => ?_, hw⟩
      have := hcell c hc
      rwa [Deep.add_add] at this
    obtain ⟨X, hX⟩ := Deep.choose_lt each
    refine ⟨X, ⟨fun i hi => ?_, fun i hi => (hX i hi).2⟩⟩
    have h00 := (hX 0 (by omega)).1 0 (by omega)
    rw [show (0 : Nat) * 4 + 0 = 0 from rfl, Addr.add_zero'] at h00
    obtain ⟨ha, hb⟩ := addr_none (v := .int .u8 (X 0).1) (by simpa using h00)
    have hc : ∀ c, c < 4 → W.cell? ⟨a.block, a.off + (i * 4 + c), none⟩ = [Value.int .u8 (X i).1, .int .i64 (X i).2.1, .int .i32 (X i).2.2.1, .int .u8 (X i).2.2.2][c]? := by
      intro c hc
      have := (hX i hi).1 c hc
      rw [ha, Addr.add_lit] at this
      exact this
    exact ⟨a.block, a.off, by rw [← ha], hb, hc 0 (by omega), hc 1 (by omega), hc 2 (by omega), hc 3 (by omega)⟩

end Go.Proofs.Ybulkdgag.Pm
