/- The walks of the functions that only read: '(*Node).Keyword', 'isOperation', 'augmentMode', 'zzs5363amodel'. -/
import Derived.Test.YbulkdgauRows
import Derived.Test.YbulkdgauPlain
import Derived.WalkKit
namespace Go.Proofs.Ybulkdgau.Pl
open Go.RowKit

theorem keyword_any (nb sb : Nat) (s : ByteArray) (w : World) (h0 : w.cell? ⟨nb, 0, none⟩ = some (.pointer (some ⟨sb, 0, none⟩))) (h1 : w.cell? ⟨sb, 0, none⟩ = some (.string s)) :
    Calls Yba.prog 10 #[.pointer (some ⟨nb, 0, none⟩)] w fun e w' => e = .returned (.string s) ∧ w' = w := by
  go_enter Yba.func10, Yba.ntmps10
  go_wp2
  go_ret
  exact ⟨rfl, rfl⟩

/-- rpc or action -/
def op2 (s : ByteArray) : Bool := (s.toList == [114, 112, 99]) || (s.toList == [97, 99, 116, 105, 111, 110])

theorem ret_bool {a b : Bool} (h : a = b) : Ending.returned (.bool a) = .returned (.bool b) := by rw [h]

theorem operation_any (nb sb : Nat) (s : ByteArray) (w : World) (h0 : w.cell? ⟨nb, 0, none⟩ = some (.pointer (some ⟨sb, 0, none⟩))) (h1 : w.cell? ⟨sb, 0, none⟩ = some (.string s)) :
    Calls Yba.prog 11 #[.pointer (some ⟨nb, 0, none⟩)] w fun e w' => e = .returned (.bool (op2 s)) ∧ w' = w := by
  by_cases c1 : (s.toList == [114, 112, 99]) = true
  · have HO : Hid (op2 s = true) := by show _ = _; unfold op2; rw [c1]; rfl
    go_enter Yba.func11, Yba.ntmps11
    go_wp2
    go_ret
    exact ⟨ret_bool HO.out.symm, rfl⟩
  · have c1 : (s.toList == [114, 112, 99]) = false := by simpa using c1
    have HO : Hid (op2 s = (s.toList == [97, 99, 116, 105, 111, 110])) := by show _ = _; unfold op2; rw [c1]; rfl
    go_enter Yba.func11, Yba.ntmps11
    go_wp2
    go_ret
    exact ⟨ret_bool HO.out.symm, rfl⟩

theorem opB_of_op2 {s : ByteArray} (h : op2 s = true) : opB s = true := by
  unfold op2 at h
  rw [Bool.or_eq_true] at h
  rcases h with h | h
  · exact opB_rpc h
  · exact opB_act h

theorem opB_of_none {s : ByteArray} (h : op2 s = false) (h3 : (s.toList == [110, 111, 116, 105, 102, 105, 99, 97, 116, 105, 111, 110]) = false) : opB s = false := by
  unfold op2 at h
  rw [Bool.or_eq_false_iff] at h
  exact opB_none h.1 h.2 h3

/-- THE CHAIN IN MEMORY: block N the slice of the nodes; node i in block N + 2 i + 2, its statement in N + 2 i + 1. -/
structure Nodes (N n : Nat) (k : Nat → ByteArray) (w : World) : Prop where
  row : ∀ i, i < n → w.cell? ⟨N, i, none⟩ = some (.pointer (some ⟨N + 2 * i + 2, 0, none⟩))
  st : ∀ i, i < n → w.cell? ⟨N + 2 * i + 1, 0, none⟩ = some (.string (k i))
  nd : ∀ i, i < n → w.cell? ⟨N + 2 * i + 2, 0, none⟩ = some (.pointer (some ⟨N + 2 * i + 1, 0, none⟩))
  up : ∀ i, i + 1 < n → w.cell? ⟨N + 2 * i + 2, 2, none⟩ = some (.pointer (some ⟨N + 2 * (i + 1) + 2, 0, none⟩))
  top : ∀ i, i + 1 = n → w.cell? ⟨N + 2 * i + 2, 2, none⟩ = some (.pointer none)

/-- How far a node stands below the end. -/
def left (m : Nat) : Value → Nat
  | .pointer (some a) => m - a.block
  | _ => 0

theorem ret_int {k : IntKind} {a b : Int} (h : a = b) : Ending.returned (.int k a) = .returned (.int k b) := by rw [h]

set_option maxHeartbeats 1000000 in
theorem mode_any (N n : Nat) (k : Nat → ByteArray) (w : World) (hN : Nodes N n k w) (hn : 0 < n) :
    Calls Yba.prog 8 #[.pointer (some ⟨N + 2, 0, none⟩)] w fun e w' => e = .returned (.int .i64 (mode k n)) ∧ w' = w := by
  have z0 := hN.nd 0 hn
  have z1 := hN.st 0 hn
  simp only [Nat.mul_zero, Nat.add_zero] at z0 z1
  obtain ⟨s0, hs0⟩ : ∃ s0, s0 = k 0 := ⟨_, rfl⟩
  rw [← hs0] at z1
  have HS0 : Hid (s0 = k 0) := hs0
  by_cases c1 : (s0.toList == [105, 110, 112, 117, 116]) = true
  · have HM : Hid (mode k n = 1) := mode_in (by rw [← HS0.out]; exact c1)
    clear hs0
    go_enter Yba.func8, Yba.ntmps8
    go_wp2_with (go_at_call 10; refine (keyword_any (N + 2) (N + 1) s0 _ z0 z1).mono ?_; rintro e w' ⟨rfl, rfl⟩)
    go_ret
    exact ⟨ret_int HM.out.symm, rfl⟩
  have c1 : (s0.toList == [105, 110, 112, 117, 116]) = false := by simpa using c1
  by_cases c2 : (s0.toList == [111, 117, 116, 112, 117, 116]) = true
  · have HM : Hid (mode k n = 0) := mode_out (by rw [← HS0.out]; exact c1) (by rw [← HS0.out]; exact c2)
    clear hs0
    go_enter Yba.func8, Yba.ntmps8
    go_wp2_with (go_at_call 10; refine (keyword_any (N + 2) (N + 1) s0 _ z0 z1).mono ?_; rintro e w' ⟨rfl, rfl⟩)
    go_ret
    exact ⟨ret_int HM.out.symm, rfl⟩
  have c2 : (s0.toList == [111, 117, 116, 112, 117, 116]) = false := by simpa using c2
  by_cases c3 : (s0.toList == [110, 111, 116, 105, 102, 105, 99, 97, 116, 105, 111, 110]) = true
  · have HM : Hid (mode k n = 0) := mode_not (by rw [← HS0.out]; exact c1) (by rw [← HS0.out]; exact c3)
    clear hs0
    go_enter Yba.func8, Yba.ntmps8
    go_wp2_with (go_at_call 10; refine (keyword_any (N + 2) (N + 1) s0 _ z0 z1).mono ?_; rintro e w' ⟨rfl, rfl⟩)
    go_ret
    exact ⟨ret_int HM.out.symm, rfl⟩
  have c3 : (s0.toList == [110, 111, 116, 105, 102, 105, 99, 97, 116, 105, 111, 110]) = false := by simpa using c3
  have H1 : Hid (((k 0).toList == [105, 110, 112, 117, 116]) = false) := by show _ = _; rw [← HS0.out]; exact c1
  have H2 : Hid (((k 0).toList == [111, 117, 116, 112, 117, 116]) = false) := by show _ = _; rw [← HS0.out]; exact c2
  have H3 : Hid (((k 0).toList == [110, 111, 116, 105, 102, 105, 99, 97, 116, 105, 111, 110]) = false) := by show _ = _; rw [← HS0.out]; exact c3
  clear hs0
  go_enter Yba.func8, Yba.ntmps8
  go_wp2_with (go_at_call 10; refine (keyword_any (N + 2) (N + 1) s0 _ z0 z1).mono ?_; rintro e w' ⟨rfl, rfl⟩)
  clear c1 c2 c3 z0 z1 HS0
  go_loop [3] (fun v => (∃ i : Nat, i < n ∧ v = .pointer (some ⟨N + 2 * i + 2, 0, none⟩) ∧ Hid (anyOp k i = false)) ∨ (v = .pointer none ∧ Hid (anyOp k n = false))) (fun v => left (N + 2 * n + 3) v)
  case atStart => exact Or.inl ⟨0, hn, rfl, rfl⟩
  case round =>
    rcases hrel with ⟨i, hi, rfl, H0⟩ | ⟨rfl, H0⟩
    · have y0 := hN.nd i hi
      have y1 := hN.st i hi
      obtain ⟨s, hs⟩ : ∃ s, s = k i := ⟨_, rfl⟩
      rw [← hs] at y1
      have HS : Hid (s = k i) := hs
      clear hs
      obtain ⟨nb, hnb⟩ : ∃ nb, nb = N + 2 * i + 2 := ⟨_, rfl⟩
      obtain ⟨sb, hsb⟩ : ∃ sb, sb = N + 2 * i + 1 := ⟨_, rfl⟩
      rw [← hnb, ← hsb] at y0
      rw [← hsb] at y1
      rw [← hnb]
      have HNB : Hid (nb = N + 2 * i + 2) := hnb
      by_cases c : op2 s = true
      · have HM : Hid (mode k n = 2) := mode_hit H1.out H2.out H3.out hi (by rw [← HS.out]; exact opB_of_op2 c)
        have HC : Hid (op2 s = true) := c
        clear c hnb hsb
        go_wp2_with (go_at_call 11; refine (operation_any nb sb s _ y0 y1).mono ?_; rw [HC.out]; rintro e w' ⟨rfl, rfl⟩)
        go_ret
        exact ⟨ret_int HM.out.symm, rfl⟩
      · have HC : Hid (op2 s = false) := (Bool.not_eq_true _ ▸ c : op2 s = false)
        by_cases c4 : (s.toList == [110, 111, 116, 105, 102, 105, 99, 97, 116, 105, 111, 110]) = true
        · have HM : Hid (mode k n = 2) := mode_hit H1.out H2.out H3.out hi (by rw [← HS.out]; exact opB_not c4)
          clear c hnb hsb
          go_wp2_with (first
            | (go_at_call 11; refine (operation_any nb sb s _ y0 y1).mono ?_; rw [HC.out]; rintro e w' ⟨rfl, rfl⟩)
            | (go_at_call 10; refine (keyword_any nb sb s _ y0 y1).mono ?_; rintro e w' ⟨rfl, rfl⟩))
          go_ret
          exact ⟨ret_int HM.out.symm, rfl⟩
        · have c4 : (s.toList == [110, 111, 116, 105, 102, 105, 99, 97, 116, 105, 111, 110]) = false := by simpa using c4
          have HN : Hid (anyOp k (i + 1) = false) := anyOp_next H0.out (by rw [← HS.out]; exact opB_of_none HC.out c4)
          by_cases hl : i + 1 < n
          · have y2 := hN.up i hl
            rw [← hnb] at y2
            obtain ⟨nb2, hnb2⟩ : ∃ nb2, nb2 = N + 2 * (i + 1) + 2 := ⟨_, rfl⟩
            rw [← hnb2] at y2
            have HB2 : Hid (nb2 = N + 2 * (i + 1) + 2) := hnb2
            clear c hnb hsb hnb2
            go_wp2_with (first
              | (go_at_call 11; refine (operation_any nb sb s _ y0 y1).mono ?_; rw [HC.out]; rintro e w' ⟨rfl, rfl⟩)
              | (go_at_call 10; refine (keyword_any nb sb s _ y0 y1).mono ?_; rintro e w' ⟨rfl, rfl⟩))
            go_round
            case rel => exact Or.inl ⟨i + 1, hl, by rw [HB2.out], HN⟩
            case measure =>
              have e1 := HNB.out
              have e2 := HB2.out
              simp only [left]
              omega
          · have y2 := hN.top i (by omega)
            rw [← hnb] at y2
            have hin : i + 1 = n := by omega
            have HN2 : Hid (anyOp k n = false) := by rw [← hin]; exact HN
            clear c hnb hsb HN hin
            go_wp2_with (first
              | (go_at_call 11; refine (operation_any nb sb s _ y0 y1).mono ?_; rw [HC.out]; rintro e w' ⟨rfl, rfl⟩)
              | (go_at_call 10; refine (keyword_any nb sb s _ y0 y1).mono ?_; rintro e w' ⟨rfl, rfl⟩))
            go_round
            case rel => exact Or.inr ⟨rfl, HN2⟩
            case measure =>
              have e1 := HNB.out
              simp only [left]
              omega
    · go_wp2
      go_ret
      exact ⟨ret_int (mode_none H1.out H2.out H3.out H0.out).symm, rfl⟩

end Go.Proofs.Ybulkdgau.Pl
