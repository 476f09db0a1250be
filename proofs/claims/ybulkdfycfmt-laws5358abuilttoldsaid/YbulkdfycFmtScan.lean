/- The walks of the law's own 'zzs5358abad' and of 'isFieldValue'. -/
import Derived.Test.YbulkdfycFmtRows
import Derived.WalkKit
import Derived.Laws.IdiomStrings
import Derived.Test.YbulkdfycFmtPlain
namespace Go.Proofs.YbulkdfycFmt.Scan
open Go.RowKit Plain
def intOf : Value → Int | .int _ q => q | _ => 0

theorem ret_bool {a b : Bool} (h : a = b) : Ending.returned (.bool a) = .returned (.bool b) := by rw [h]

set_option maxHeartbeats 1000000 in
theorem bad_any (s : ByteArray) (w : World) (hs : s.size ≤ maxLen) :
    Calls Ybaf.prog 7 #[.string s] w fun e w' => e = .returned (.bool (bad s.data.toList)) ∧ w' = w := by
  unfold maxLen at hs
  go_enter Ybaf.func7, Ybaf.ntmps7
  go_wp2
  go_loop [3] (fun i => ∃ k : Nat, k ≤ s.size ∧ i = .int .i64 k ∧ Hid (bad (s.data.toList.take k) = false)) (fun i => s.size - (intOf i).toNat)
  case atStart => exact ⟨0, Nat.zero_le _, rfl, bad_nil⟩
  case round =>
    obtain ⟨k, hk, rfl, H0⟩ := hrel
    by_cases hlt : k < s.size
    · by_cases h1 : (s[k].toNat : Int) = 127
      · have HB : Hid (bad s.data.toList = true) := bad_hit hlt (Or.inl h1)
        go_wp2
        go_ret
        exact ⟨ret_bool HB.out.symm, rfl⟩
      · by_cases h2 : (s[k].toNat : Int) < 32
        · by_cases h3 : (s[k].toNat : Int) = 9
          · have HN : Hid (bad (s.data.toList.take (k + 1)) = false) := bad_next hlt H0.out (by omega)
            clear H0
            go_wp2
            go_round
            case rel => exact ⟨k + 1, by omega, by go_num, HN⟩
            case measure => simp [intOf]; omega
          · have HB : Hid (bad s.data.toList = true) := bad_hit hlt (Or.inr ⟨h2, h3⟩)
            have h3' : ((s[k].toNat : Int) == 9) = false := by simpa using h3
            go_wp2
            go_ret
            exact ⟨ret_bool HB.out.symm, rfl⟩
        · have HN : Hid (bad (s.data.toList.take (k + 1)) = false) := bad_next hlt H0.out (by omega)
          clear H0
          go_wp2
          go_round
          case rel => exact ⟨k + 1, by omega, by go_num, HN⟩
          case measure => simp [intOf]; omega
    · have HB : Hid (bad s.data.toList = false) := bad_all (by omega) H0.out
      go_wp2
      go_ret
      exact ⟨ret_bool HB.out.symm, rfl⟩

theorem below_drew_alloc (w : World) (o : Obj) : Below w.heap.size w (w.alloc o).drew := ((Below.refl _ w).alloc (Nat.le_refl _) o).drew

set_option maxHeartbeats 1000000 in
theorem field_any (s : ByteArray) (w : World) (hs : s.size ≤ maxLen) :
    Calls Ybaf.prog 8 #[.string s] w fun e w' => e = .returned (.bool (!bad s.data.toList)) ∧ Below w.heap.size w w' := by
  unfold maxLen at hs
  obtain ⟨cap, hcap⟩ : ∃ cap, cap = grownCap w s.size 0 5 := ⟨_, rfl⟩
  have hcv := run_bytes_of_string (P := Ybaf.prog) w 9 23 5 s Ybaf.underlying9 Ybaf.underlying23 Ybaf.underlying5
  rw [← hcap] at hcv
  clear hcap
  obtain ⟨o, ho⟩ : ∃ o, o = Obj.cells (bytesRow s cap) 5 ((bytesRow s cap).size, (bytesRow s cap).size + 1) := ⟨_, rfl⟩
  have hcell : ∀ k (h : k < s.size), (w.alloc o).cell? ⟨w.heap.size, k, none⟩ = some (.int .u8 (s[k].toNat : Int)) := by
    intro k h
    rw [ho]
    exact (World.cell?_alloc_mark w _ _ _ k).trans (bytesRow_at s cap k h)
  rw [← ho] at hcv
  clear ho
  go_enter Ybaf.func8, Ybaf.ntmps8
  go_wp2
  go_loop [8] (fun i => ∃ k : Nat, k ≤ s.size ∧ i = .int .i64 k ∧ Hid (bad (s.data.toList.take k) = false)) (fun i => s.size - (intOf i).toNat)
  case atStart => exact ⟨0, Nat.zero_le _, rfl, bad_nil⟩
  case round =>
    obtain ⟨k, hk, rfl, H0⟩ := hrel
    by_cases hlt : k < s.size
    · have hc := hcell k hlt
      by_cases h1 : (s[k].toNat : Int) = 127
      · have HB : Hid (bad s.data.toList = true) := bad_hit hlt (Or.inl h1)
        rw [h1] at hc
        go_wp2
        go_ret
        exact ⟨ret_bool (by rw [HB.out]; rfl), below_drew_alloc w o⟩
      · by_cases h2 : (s[k].toNat : Int) < 32
        · by_cases h3 : (s[k].toNat : Int) = 9
          · have HN : Hid (bad (s.data.toList.take (k + 1)) = false) := bad_next hlt H0.out (by omega)
            clear H0
            rw [h3] at hc
            go_wp2
            go_round
            case rel => exact ⟨k + 1, by omega, by go_num, HN⟩
            case measure => simp [intOf]; omega
          · have HB : Hid (bad s.data.toList = true) := bad_hit hlt (Or.inr ⟨h2, h3⟩)
            have h3' : ((s[k].toNat : Int) == 9) = false := by simpa using h3
            go_wp2
            go_ret
            exact ⟨ret_bool (by rw [HB.out]; rfl), below_drew_alloc w o⟩
        · have HN : Hid (bad (s.data.toList.take (k + 1)) = false) := bad_next hlt H0.out (by omega)
          have h1' : ((s[k].toNat : Int) == 127) = false := by simpa using h1
          clear H0
          go_wp2
          go_round
          case rel => exact ⟨k + 1, by omega, by go_num, HN⟩
          case measure => simp [intOf]; omega
    · have HB : Hid (bad s.data.toList = false) := bad_all (by omega) H0.out
      go_wp2
      go_ret
      exact ⟨ret_bool (by rw [HB.out]; rfl), below_drew_alloc w o⟩

end Go.Proofs.YbulkdfycFmt.Scan
