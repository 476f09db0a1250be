/- Plain: the mode that the keywords give. No Go in sight. -/
namespace Go.Proofs.Ybulkdgau.Pl

/-- rpc, action or notification -/
def opB (s : ByteArray) : Bool := (s.toList == [114, 112, 99]) || ((s.toList == [97, 99, 116, 105, 111, 110]) || (s.toList == [110, 111, 116, 105, 102, 105, 99, 97, 116, 105, 111, 110]))
/-- one of the first n keywords is such -/
def anyOp (k : Nat → ByteArray) : Nat → Bool
  | 0 => false
  | n + 1 => anyOp k n || opB (k n)
/-- inInput = 1, inData = 0, inNested = 2 -/
def mode (k : Nat → ByteArray) (n : Nat) : Int :=
  if (k 0).toList == [105, 110, 112, 117, 116] then 1
  else if ((k 0).toList == [111, 117, 116, 112, 117, 116]) || ((k 0).toList == [110, 111, 116, 105, 102, 105, 99, 97, 116, 105, 111, 110]) then 0
  else if anyOp k n then 2 else 0

theorem anyOp_hit {k : Nat → ByteArray} {i : Nat} (h : opB (k i) = true) : ∀ {n}, i < n → anyOp k n = true
  | 0, hi => by omega
  | n + 1, hi => by
    unfold anyOp
    by_cases e : i = n
    · subst e; rw [h]; simp
    · rw [anyOp_hit h (by omega)]; rfl

theorem anyOp_next {k : Nat → ByteArray} {i : Nat} (h0 : anyOp k i = false) (h : opB (k i) = false) : anyOp k (i + 1) = false := by
  unfold anyOp; rw [h0, h]; rfl

theorem opB_rpc {s : ByteArray} (h : (s.toList == [114, 112, 99]) = true) : opB s = true := by unfold opB; rw [h]; rfl
theorem opB_act {s : ByteArray} (h : (s.toList == [97, 99, 116, 105, 111, 110]) = true) : opB s = true := by unfold opB; rw [h]; simp
theorem opB_not {s : ByteArray} (h : (s.toList == [110, 111, 116, 105, 102, 105, 99, 97, 116, 105, 111, 110]) = true) : opB s = true := by unfold opB; rw [h]; simp
theorem opB_none {s : ByteArray} (h1 : (s.toList == [114, 112, 99]) = false) (h2 : (s.toList == [97, 99, 116, 105, 111, 110]) = false) (h3 : (s.toList == [110, 111, 116, 105, 102, 105, 99, 97, 116, 105, 111, 110]) = false) : opB s = false := by
  unfold opB; rw [h1, h2, h3]; rfl

theorem mode_in {k : Nat → ByteArray} {n : Nat} (h : ((k 0).toList == [105, 110, 112, 117, 116]) = true) : mode k n = 1 := by unfold mode; rw [if_pos h]
theorem mode_out {k : Nat → ByteArray} {n : Nat} (h0 : ((k 0).toList == [105, 110, 112, 117, 116]) = false) (h : ((k 0).toList == [111, 117, 116, 112, 117, 116]) = true) : mode k n = 0 := by
  unfold mode; rw [h0, h]; simp
theorem mode_not {k : Nat → ByteArray} {n : Nat} (h0 : ((k 0).toList == [105, 110, 112, 117, 116]) = false) (h : ((k 0).toList == [110, 111, 116, 105, 102, 105, 99, 97, 116, 105, 111, 110]) = true) : mode k n = 0 := by
  unfold mode; rw [h0, h]; simp
theorem mode_hit {k : Nat → ByteArray} {n i : Nat} (h0 : ((k 0).toList == [105, 110, 112, 117, 116]) = false) (h1 : ((k 0).toList == [111, 117, 116, 112, 117, 116]) = false) (h2 : ((k 0).toList == [110, 111, 116, 105, 102, 105, 99, 97, 116, 105, 111, 110]) = false)
    (hi : i < n) (h : opB (k i) = true) : mode k n = 2 := by
  unfold mode; rw [h0, h1, h2, anyOp_hit h hi]; rfl
theorem mode_none {k : Nat → ByteArray} {n : Nat} (h0 : ((k 0).toList == [105, 110, 112, 117, 116]) = false) (h1 : ((k 0).toList == [111, 117, 116, 112, 117, 116]) = false) (h2 : ((k 0).toList == [110, 111, 116, 105, 102, 105, 99, 97, 116, 105, 111, 110]) = false)
    (h : anyOp k n = false) : mode k n = 0 := by
  unfold mode; rw [h0, h1, h2, h]; rfl

end Go.Proofs.Ybulkdgau.Pl
