/- The walk of 'zzs5363amodel'. -/
import Derived.Test.YbulkdgauRead
namespace Go.Proofs.Ybulkdgau.Pl
open Go.RowKit

set_option maxHeartbeats 1000000 in
theorem model_any (g n cap : Nat) (k : Nat → ByteArray) (w : World) (hk : ∀ i, i < n → w.cell? ⟨g, i, none⟩ = some (.string (k i))) (hn : 0 < n) (hm : n ≤ 1025) :
    Calls Yba.prog 9 #[.slice (some ⟨g, 0, none⟩) n cap] w fun e w' => e = .returned (.int .i64 (mode k n)) ∧ w' = w := by
  have z1 := hk 0 hn
  obtain ⟨s0, hs0⟩ : ∃ s0, s0 = k 0 := ⟨_, rfl⟩
  rw [← hs0] at z1
  have HS0 : Hid (s0 = k 0) := hs0
  have HK : Hid (∀ i, i < n → w.cell? ⟨g, i, none⟩ = some (.string (k i))) := hk
  clear hk
  by_cases c1 : (s0.toList == [105, 110, 112, 117, 116]) = true
  · have HM : Hid (mode k n = 1) := mode_in (by rw [← HS0.out]; exact c1)
    clear hs0
    go_enter Yba.func9, Yba.ntmps9
    go_wp2
    go_ret
    exact ⟨ret_int HM.out.symm, rfl⟩
  have c1 : (s0.toList == [105, 110, 112, 117, 116]) = false := by simpa using c1
  by_cases c2 : (s0.toList == [111, 117, 116, 112, 117, 116]) = true
  · have HM : Hid (mode k n = 0) := mode_out (by rw [← HS0.out]; exact c1) (by rw [← HS0.out]; exact c2)
    clear hs0
    go_enter Yba.func9, Yba.ntmps9
    go_wp2
    go_ret
    exact ⟨ret_int HM.out.symm, rfl⟩
  have c2 : (s0.toList == [111, 117, 116, 112, 117, 116]) = false := by simpa using c2
  by_cases c3 : (s0.toList == [110, 111, 116, 105, 102, 105, 99, 97, 116, 105, 111, 110]) = true
  · have HM : Hid (mode k n = 0) := mode_not (by rw [← HS0.out]; exact c1) (by rw [← HS0.out]; exact c3)
    clear hs0
    go_enter Yba.func9, Yba.ntmps9
    go_wp2
    go_ret
    exact ⟨ret_int HM.out.symm, rfl⟩
  have c3 : (s0.toList == [110, 111, 116, 105, 102, 105, 99, 97, 116, 105, 111, 110]) = false := by simpa using c3
  have H1 : Hid (((k 0).toList == [105, 110, 112, 117, 116]) = false) := by show _ = _; rw [← HS0.out]; exact c1
  have H2 : Hid (((k 0).toList == [111, 117, 116, 112, 117, 116]) = false) := by show _ = _; rw [← HS0.out]; exact c2
  have H3 : Hid (((k 0).toList == [110, 111, 116, 105, 102, 105, 99, 97, 116, 105, 111, 110]) = false) := by show _ = _; rw [← HS0.out]; exact c3
  clear hs0
  go_enter Yba.func9, Yba.ntmps9
  go_wp2
  clear c1 c2 c3 z1 HS0
  go_loop [3] (fun c => ∃ i : Nat, i ≤ n ∧ c = .int .i64 i ∧ Hid (anyOp k i = false)) (fun c => n - (intOf c).toNat)
  case atStart => exact ⟨0, Nat.zero_le _, rfl, rfl⟩
  case round =>
    obtain ⟨i, hi, rfl, H0⟩ := hrel
    by_cases hlt : i < n
    · have y1 := HK.out i hlt
      obtain ⟨s, hs⟩ : ∃ s, s = k i := ⟨_, rfl⟩
      rw [← hs] at y1
      have HS : Hid (s = k i) := hs
      clear hs
      by_cases d1 : (s.toList == [114, 112, 99]) = true
      · have HM : Hid (mode k n = 2) := mode_hit H1.out H2.out H3.out hlt (by rw [← HS.out]; exact opB_rpc d1)
        go_wp2
        go_ret
        exact ⟨ret_int HM.out.symm, rfl⟩
      have d1 : (s.toList == [114, 112, 99]) = false := by simpa using d1
      by_cases d2 : (s.toList == [97, 99, 116, 105, 111, 110]) = true
      · have HM : Hid (mode k n = 2) := mode_hit H1.out H2.out H3.out hlt (by rw [← HS.out]; exact opB_act d2)
        go_wp2
        go_ret
        exact ⟨ret_int HM.out.symm, rfl⟩
      have d2 : (s.toList == [97, 99, 116, 105, 111, 110]) = false := by simpa using d2
      by_cases d3 : (s.toList == [110, 111, 116, 105, 102, 105, 99, 97, 116, 105, 111, 110]) = true
      · have HM : Hid (mode k n = 2) := mode_hit H1.out H2.out H3.out hlt (by rw [← HS.out]; exact opB_not d3)
        go_wp2
        go_ret
        exact ⟨ret_int HM.out.symm, rfl⟩
      have d3 : (s.toList == [110, 111, 116, 105, 102, 105, 99, 97, 116, 105, 111, 110]) = false := by simpa using d3
      have HN : Hid (anyOp k (i + 1) = false) := anyOp_next H0.out (by rw [← HS.out]; exact opB_none d1 d2 d3)
      go_wp2
      go_round
      case rel => exact ⟨i + 1, by omega, by go_num, HN⟩
      case measure => simp [intOf]; omega
    · obtain rfl : i = n := by omega
      go_wp2
      go_ret
      exact ⟨ret_int (mode_none H1.out H2.out H3.out H0.out).symm, rfl⟩

end Go.Proofs.Ybulkdgau.Pl
