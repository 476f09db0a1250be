/- Plain: which texts hold a control byte. No Go in sight. -/
namespace Go.Proofs.YbulkdfycFmt.Plain

/-- One byte, as a number: 0x7f, or below 0x20 and no tab. -/
def bad1 (c : Int) : Bool := decide (c = 127 ∨ (c < 32 ∧ c ≠ 9))

def bad (l : List UInt8) : Bool := l.any fun c => bad1 (c.toNat : Int)

theorem bad_nil : bad [] = false := rfl

theorem take_snoc (s : ByteArray) (k : Nat) (h : k < s.size) : s.data.toList.take (k + 1) = s.data.toList.take k ++ [s[k]] := by
  rw [List.take_succ_eq_append_getElem (by simpa using h)]; rfl

theorem bad_snoc (l : List UInt8) (c : UInt8) : bad (l ++ [c]) = (bad l || bad1 (c.toNat : Int)) := by
  simp [bad]

theorem bad_next {s : ByteArray} {k : Nat} (h : k < s.size) (h0 : bad (s.data.toList.take k) = false) (h1 : ¬ ((s[k].toNat : Int) = 127 ∨ ((s[k].toNat : Int) < 32 ∧ (s[k].toNat : Int) ≠ 9))) :
    bad (s.data.toList.take (k + 1)) = false := by
  rw [take_snoc s k h, bad_snoc, h0]; unfold bad1; rw [decide_eq_false h1]; rfl

theorem bad_hit {s : ByteArray} {k : Nat} (h : k < s.size) (h1 : (s[k].toNat : Int) = 127 ∨ ((s[k].toNat : Int) < 32 ∧ (s[k].toNat : Int) ≠ 9)) :
    bad s.data.toList = true := by
  unfold bad
  rw [List.any_eq_true]
  exact ⟨s[k], by simp [ByteArray.getElem_eq_getElem_data], by unfold bad1; exact decide_eq_true h1⟩

theorem bad_all {s : ByteArray} {k : Nat} (h : s.size ≤ k) (h0 : bad (s.data.toList.take k) = false) : bad s.data.toList = false := by
  rwa [List.take_of_length_le (by simpa using h)] at h0

end Go.Proofs.YbulkdfycFmt.Plain
