/- The keys' row in memory, and the keys, pending steps and carried steps after j rounds. -/
import Derived.Test.YbulkdgagTouch
namespace Go.Proofs.Ybulkdgag.Pm
open Go.RowKit Go.ChangeMaps

/-- The pending steps after j rounds. -/
def sOf (K : Nat → Key) : Nat → List Key
  | 0 => []
  | j + 1 => putK (sOf K j) (K j)
/-- The carried steps after j rounds. -/
def cOf (K : Nat → Key) : Nat → List Key
  | 0 => []
  | j + 1 => if j % 2 = 0 then putK (cOf K j) (K j) else cOf K j

theorem length_putK (S : List Key) (k : Key) : (putK S k).length ≤ S.length + 1 := by
  unfold putK
  split
  · omega
  · simp

theorem sOf_length (K : Nat → Key) : ∀ j, (sOf K j).length ≤ j
  | 0 => Nat.le_refl _
  | j + 1 => by
    have := sOf_length K j
    have := length_putK (sOf K j) (K j)
    show (putK (sOf K j) (K j)).length ≤ j + 1
    omega

theorem mem_sOf (K : Nat → Key) {x : Key} : ∀ {j}, x ∈ sOf K j ↔ ∃ i, i < j ∧ x = K i
  | 0 => by simp [sOf]
  | j + 1 => by
    rw [sOf, mem_putK, mem_sOf K]
    constructor
    · rintro (⟨i, h1, h2⟩ | h)
      · exact ⟨i, by omega, h2⟩
      · exact ⟨j, by omega, h⟩
    · rintro ⟨i, h1, h2⟩
      by_cases e : i = j
      · exact Or.inr (e ▸ h2)
      · exact Or.inl ⟨i, by omega, h2⟩

theorem mem_cOf (K : Nat → Key) {x : Key} : ∀ {j}, (∃ i, i < j ∧ i % 2 = 0 ∧ x = K i) → x ∈ cOf K j
  | 0, h => by obtain ⟨i, h, _⟩ := h; omega
  | j + 1, ⟨i, h1, h2, h3⟩ => by
    rw [cOf]
    by_cases e : i = j
    · subst e
      rw [if_pos h2, mem_putK]
      exact Or.inr h3
    · have ih : x ∈ cOf K j := mem_cOf K ⟨i, by omega, h2, h3⟩
      split
      · exact mem_putK.2 (Or.inl ih)
      · exact ih

/-- One key as cells. -/
def kcells (k : Key) : List Value := [.int .i64 k.1, .int .i64 k.2.1, .int .i32 k.2.2.1, .int .u8 k.2.2.2]
/-- The first j keys as cells. -/
def kscells (K : Nat → Key) : Nat → List Value
  | 0 => []
  | j + 1 => kscells K j ++ kcells (K j)

theorem kscells_length (K : Nat → Key) : ∀ j, (kscells K j).length = j * 4
  | 0 => rfl
  | j + 1 => by
    rw [kscells, List.length_append, kscells_length K j]
    simp [kcells]
    omega

theorem kscells_at (K : Nat → Key) {i c : Nat} (hc : c < 4) : ∀ {j}, i < j → (kscells K j)[i * 4 + c]? = (kcells (K i))[c]?
  | 0, h => by omega
  | j + 1, h => by
    rw [kscells]
    by_cases e : i = j
    · subst e
      rw [List.getElem?_append_right (by rw [kscells_length]; omega), kscells_length]
      congr 1
      omega
    · rw [List.getElem?_append_left (by rw [kscells_length]; omega)]
      exact kscells_at K hc (by omega)

/-- THE KEYS' ROW: block g. -/
def Ks (g len j : Nat) (K : Nat → Key) (w : World) : Prop := w.ownsRow g 31 4 (.slice (some ⟨g, 0, none⟩) j len) j (kscells K j)

variable {T : Nat → Prop} {w w' : World} {g len j : Nat} {K : Nat → Key}

theorem Ks.row (h : Ks g len j K w) : ∃ cur, w.heap[g]? = some (.cells cur 31 (0, 0)) ∧ cur.toList.take (j * 4) = kscells K j := by
  obtain ⟨_, h2⟩ := h
  rcases h2 with ⟨h2, _⟩ | ⟨g', cap, cur, h2, _, h4, _, _, _, h8⟩
  · cases h2
  · simp only [Value.slice.injEq, Option.some.injEq, Addr.mk.injEq, and_true, true_and] at h2
    obtain ⟨rfl, rfl⟩ := h2
    exact ⟨cur, h4, h8⟩

theorem Ks.cell (h : Ks g len j K w) {i c : Nat} (hi : i < j) (hc : c < 4) : w.cell? ⟨g, i * 4 + c, none⟩ = (kcells (K i))[c]? :=
  (World.ownsRow.cellAt h (i * 4 + c) (by omega)).trans (kscells_at K hc hi)

theorem Ks.kept (h : Ks g len j K w) (ht : Touch T w w') (hT : ¬ T g) : Ks g len j K w' := by
  obtain ⟨h1, h2⟩ := h
  refine ⟨h1, ?_⟩
  rcases h2 with h2 | ⟨g', cap, cur, h2, h3, h4, h5⟩
  · exact Or.inl h2
  · have e : g' = g := by
      simp only [Value.slice.injEq, Option.some.injEq, Addr.mk.injEq, and_true, true_and] at h2
      exact h2.1.symm
    exact Or.inr ⟨g', cap, cur, h2, h3, ht.heap h4 (e ▸ hT), h5⟩

end Go.Proofs.Ybulkdgag.Pm
