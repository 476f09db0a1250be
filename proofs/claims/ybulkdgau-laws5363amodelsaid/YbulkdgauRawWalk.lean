/- The walk of 'LawS5363ARaw'. -/
import Derived.Test.YbulkdgauCheck
namespace Go.Proofs.Ybulkdgau.Pl
open Go.RowKit

/-- The keywords: the first, then the rest. -/
def kOf (f : ByteArray) (R : Nat → ByteArray) : Nat → ByteArray
  | 0 => f
  | i + 1 => R i
/-- n keywords as cells. -/
def scells (k : Nat → ByteArray) : Nat → List Value
  | 0 => []
  | n + 1 => scells k n ++ [.string (k n)]
theorem scells_length (k : Nat → ByteArray) : ∀ n, (scells k n).length = n
  | 0 => rfl
  | n + 1 => by simp [scells, scells_length k n]
theorem scells_at (k : Nat → ByteArray) {i : Nat} : ∀ {n}, i < n → (scells k n)[i]? = some (.string (k i))
  | 0, h => by omega
  | n + 1, h => by
    rw [scells]
    by_cases e : i = n
    · subst e
      rw [List.getElem?_append_right (by rw [scells_length]; omega), scells_length]
      simp
    · rw [List.getElem?_append_left (by rw [scells_length]; omega)]
      exact scells_at k (by omega)

theorem info9 : (Yba.prog.info? 9).map (fun i => (i.zero, i.size, i.bytes)) = some (some (.string ⟨#[]⟩), 1, 16) := by kernel_rfl

/-- What is read of the strings that came in. -/
def InS (ao : Option Addr) (len : Nat) (R : Nat → ByteArray) (w : World) : Prop :=
  ∀ i, i < len → ∃ b off, ao = some ⟨b, off, none⟩ ∧ b < w.heap.size ∧ w.cell? ⟨b, off + i, none⟩ = some (.string (R i))

theorem raw_long (f : ByteArray) (ao : Option Addr) (len cap : Nat) (w : World) (h : (1024 : Int) < (len : Int)) :
    Calls Yba.prog 4 #[.string f, .slice ao len cap] w fun e w' => e = .returned (.bool true) ∧ Below w.heap.size w w' := by
  go_enter Yba.func4, Yba.ntmps4
  go_wp2
  go_ret
  exact ⟨rfl, Below.refl _ _⟩

theorem new1 (w : World) (v : Value) (ty : TypeId) : ∀ j u, [v][j]? = some u → (w.alloc (.cells #[v] ty)).cell? ((⟨w.heap.size, 0, none⟩ : Addr).add j) = some u := by
  intro j u h
  rw [Addr.add_lit, Nat.zero_add]
  refine (cell_of_row _ _ _ _ _ _ (heap_new_at (w := w) (.cells #[v] ty) rfl)).trans ?_
  simpa using h

set_option maxHeartbeats 1000000 in
theorem raw_short (f : ByteArray) (ao : Option Addr) (len cap : Nat) (R : Nat → ByteArray) (w : World) (hlen : len ≤ 1024) (hR : InS ao len R w) :
    Calls Yba.prog 4 #[.string f, .slice ao len cap] w fun e w' => e = .returned (.bool true) ∧ Below w.heap.size w w' := by
  obtain ⟨i0, hi, hz0, hz1, hz2⟩ := info_parts info9
  obtain ⟨B, hB⟩ : ∃ B, w.heap.size = B := ⟨_, rfl⟩
  have hRB : ∀ i, i < len → ∃ b off, ao = some ⟨b, off, none⟩ ∧ b < B ∧ w.cell? ⟨b, off + i, none⟩ = some (.string (R i)) := by rw [← hB]; exact hR
  rw [hB]
  clear hR
  go_enter Yba.func4, Yba.ntmps4
  go_wp2_with (first
    | (at_make; refine wpList_make_own _ rfl _ _ 23 rfl B 9 i0 (.string ⟨#[]⟩) 1 Yba.underlying23 hi hz0 hz1 _ _ _ (len + 1) rfl rfl (by omega) (by rw [hz2]; omega) (by unfold maxLen; omega) (by omega) ?_; intro w1 hown1 hgrow1; rw [hB] at hown1)
    | (at_builtin; refine wpList_append_fits _ rfl (.tmp 14) (.tmp 16) 23 rfl B 9 i0 1 Yba.underlying23 hi hz1 B 0 (len + 1) _ rfl (hown1.alloc _) ⟨w1.heap.size, 0, none⟩ 1 1 [.string f] rfl rfl (new1 w1 _ _) (by intro u hu; simp at hu; subst hu; rfl) (by omega) ?_; intro w2 hown2 hgrow2))
  have hown0 : w2.ownsRow B 9 1 (.slice (some ⟨B, 0, none⟩) (0 + 1) (len + 1)) (0 + 1) (scells (kOf f R) (0 + 1)) := hown2
  have hb2 : Below B w w2 := (((Below.refl B w).grown hgrow1 (by omega) (fun k h => by cases h)).alloc (by have := hgrow1.size; omega) _).grown hgrow2 (by have := hgrow1.size; simp; omega) (fun k h => by cases h; exact Nat.le_refl _)
  have hs2 : B < w2.heap.size := by
    rcases hown2.2 with ⟨h, _⟩ | ⟨g', c', cur, h, _, h4, _⟩
    · cases h
    · simp only [Value.slice.injEq, Option.some.injEq, Addr.mk.injEq, and_true, true_and] at h
      rw [← h.1] at h4
      exact lt_of_heap h4
  clear hown1 hgrow1 hown2 hgrow2 hB
  obtain ⟨k, hk⟩ : ∃ k, k = kOf f R := ⟨_, rfl⟩
  have HK : Hid (k = kOf f R) := hk
  rw [← hk] at hown0
  clear hk
  go_loopw [5, 6] (fun v c wr => ∃ i : Nat, i ≤ len ∧ c = .int .i64 i ∧ v = .slice (some ⟨B, 0, none⟩) (i + 1) (len + 1) ∧ wr.ownsRow B 9 1 (.slice (some ⟨B, 0, none⟩) (i + 1) (len + 1)) (i + 1) (scells k (i + 1)) ∧ B < wr.heap.size ∧ Below B w wr)
    (fun _ c _ => len - (intOf c).toNat)
  case atStart => exact ⟨0, Nat.zero_le _, rfl, rfl, hown0, hs2, hb2⟩
  case round =>
    clear hown0 hs2 hb2
    obtain ⟨i, hil, rfl, rfl, hown, hs, hb⟩ := hrel
    by_cases hlt : i < len
    · obtain ⟨b, off, rfl, hbB, hc⟩ := hRB i hlt
      have y1 := (hb.cell (p := ⟨b, off + i, none⟩) hbB).trans hc
      obtain ⟨s, hs0⟩ : ∃ s, s = R i := ⟨_, rfl⟩
      rw [← hs0] at y1
      have HS : Hid (k (i + 1) = s) := by show _ = _; rw [HK.out, hs0]; rfl
      clear hs0 hc hRB
      go_wp2_with (at_builtin; refine wpList_append_fits _ rfl (.tmp 24) (.tmp 29) 23 rfl B 9 i0 1 Yba.underlying23 hi hz1 B (i + 1) (len + 1) _ rfl (hown.alloc _) ⟨wr.heap.size, 0, none⟩ 1 1 [.string s] rfl rfl (new1 wr _ _) (by intro u hu; simp at hu; subst hu; rfl) (by omega) ?_; intro w3 hown3 hgrow3)
      have hown4 : w3.ownsRow B 9 1 (.slice (some ⟨B, 0, none⟩) (i + 1 + 1) (len + 1)) (i + 1 + 1) (scells k (i + 1 + 1)) := by
        rw [scells, HS.out]
        exact hown3
      have hb3 : Below B w w3 := (hb.alloc (by omega) _).grown hgrow3 (by simp; omega) (fun k h => by cases h; exact Nat.le_refl _)
      have hs3 : B < w3.heap.size := by have := hgrow3.size; simp at this; omega
      clear hown3 hgrow3
      go_roundw
      case rel => exact ⟨i + 1, by omega, by go_num, rfl, hown4, hs3, hb3⟩
      case measure => simp [intOf]; omega
    · obtain rfl : i = len := by omega
      have hcells : ∀ c, c < i + 1 → wr.cell? ⟨B, c, none⟩ = some (.string (k c)) := fun c hc => (hown.cellAt c (by omega)).trans (scells_at k hc)
      have hchk := check_any B (i + 1) (i + 1) k wr hs hcells (by omega) (by omega)
      clear hcells hRB hown
      go_wp2_with (go_at_call 6; refine hchk.mono ?_; rintro e w3 ⟨rfl, hb3⟩)
      go_ret
      exact ⟨rfl, hb.trans (hb3.mono (by omega))⟩

end Go.Proofs.Ybulkdgau.Pl
