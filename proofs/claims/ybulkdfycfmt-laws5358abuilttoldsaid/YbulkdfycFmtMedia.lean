/- 'mediaType' and the law's 'zzs5358acheck', for every F that stands in fmt's place: the error that fmt.Errorf makes is never nil; its text is not looked at. -/
import Derived.Test.YbulkdfycFmtScan
import Derived.Stop.CallBack
import Derived.Stop.IfaceNil
import Derived.WalkSpells
import GoSem.ClaimData
namespace Go.Proofs.YbulkdfycFmt.Media
open Go.RowKit Go.Extern.Stop Go.Stop Go.Extern Plain

theorem call10 (args : Array Value) (w : World) : (callFunc 10 args).run Ybaf.prog w = ((FmtStop.errorf #[9, 30] #[26] args).run Ybaf.prog w).andThen fun v w' => .ok (.value v) w' :=
  run_callFunc_extern Ybaf.func10 (by kernel_rfl) (by kernel_rfl) (by kernel_rfl) (by kernel_rfl) args w
theorem guard (name : String) (w : World) : (FmtStop.guard name).run Ybaf.prog w = .ok () w := by kernel_rfl
theorem fmt0 : FmtStop.printed? ⟨#[84, 121, 112, 101, 32, 37, 113, 32, 104, 111, 108, 100, 115, 32, 97, 32, 99, 111, 110, 116, 114, 111, 108, 32, 99, 104, 97, 114, 97, 99, 116, 101, 114]⟩ 1 = some [(0, 113, false)] := by kernel_rfl
theorem fmt0r (w : World) : (FmtDoors.printed ⟨#[84, 121, 112, 101, 32, 37, 113, 32, 104, 111, 108, 100, 115, 32, 97, 32, 99, 111, 110, 116, 114, 111, 108, 32, 99, 104, 97, 114, 97, 99, 116, 101, 114]⟩ 1).run Ybaf.prog w = .ok [(0, 113, false)] w := by kernel_rfl
def shape9 : List UInt8 := [12, 6, 0, 0, 0, 0, 0, 0, 0, 115, 116, 114, 105, 110, 103]
theorem op9_113w (name : String) (x : ByteArray) (w : World) : (FmtStop.operand name true 113 false (.iface 9 (.string x))).run Ybaf.prog w = .ok (shape9, FmtStop.pack x.data.toList) w := by kernel_rfl
theorem op9_113 (name : String) (x : ByteArray) (w : World) : (FmtStop.operand name false 113 false (.iface 9 (.string x))).run Ybaf.prog w = .ok (shape9, FmtStop.pack x.data.toList) w := by kernel_rfl
theorem strict9 (name : String) (x : ByteArray) (w : World) : (FmtStop.strict name (.iface 9 (.string x))).run Ybaf.prog w = .ok (shape9, FmtStop.pack x.data.toList) w := by kernel_rfl
theorem ptr33 (w : World) : (FmtStop.ptrTo "errors.errorString").run Ybaf.prog w = .ok 33 w := by kernel_rfl
theorem elem33 (w : World) : (elemOf 33).run Ybaf.prog w = .ok 35 w := by kernel_rfl
theorem isError33 (w : World) : (FmtDoors.textMethod 33 "Error").run Ybaf.prog w = .ok true w := by kernel_rfl
attribute [local go_sem] call10 guard fmt0 fmt0r op9_113w op9_113 strict9 ptr33 elem33 isError33

/-- What fmt is asked. -/
def reading (s : ByteArray) : List (List UInt8) :=
  [[84, 121, 112, 101, 32, 37, 113, 32, 104, 111, 108, 100, 115, 32, 97, 32, 99, 111, 110, 116, 114, 111, 108, 32, 99, 104, 97, 114, 97, 99, 116, 101, 114], shape9, FmtStop.pack s.data.toList]

set_option maxHeartbeats 1000000 in
theorem errorf_type (F : Interp) (s : ByteArray) (blk : Nat) (w : World) (hF : F.answers w.tape)
    (hc0 : w.cell? ⟨blk, 0, none⟩ = some (.iface 9 (.string s))) :
    Calls Ybaf.prog 9 #[.string ⟨#[84, 121, 112, 101, 32, 37, 113, 32, 104, 111, 108, 100, 115, 32, 97, 32, 99, 111, 110, 116, 114, 111, 108, 32, 99, 104, 97, 114, 97, 99, 116, 101, 114]⟩, .slice (some ⟨blk, 0, none⟩) 1 1] w fun e w' =>
      e = .returned (.iface 33 (.pointer (some ⟨w.heap.size, 0, none⟩))) ∧ w' = (w.alloc (.cells #[.string (FmtStop.textOf (F "fmt.errorf" (reading s) 0))] 35)).drew := by
  have hF' := answers_open hF
  go_enter Ybaf.func9, Ybaf.ntmps9
  go_wp2
  go_ret
  exact ⟨rfl, rfl⟩

theorem media_empty (w : World) :
    Calls Ybaf.prog 6 #[.string ⟨#[]⟩] w fun e w' => e = .returned (.tuple #[.string ⟨#[97, 112, 112, 108, 105, 99, 97, 116, 105, 111, 110, 47, 111, 99, 116, 101, 116, 45, 115, 116, 114, 101, 97, 109]⟩, .nilIface]) ∧ w' = w := by
  go_enter Ybaf.func6, Ybaf.ntmps6
  go_wp2
  go_ret2
  exact ⟨rfl, rfl⟩

set_option maxHeartbeats 1000000 in
theorem media_bad (F : Interp) (s : ByteArray) (w : World) (hF : F.answers w.tape) (hs : s.size ≤ maxLen) (hne : (s.toList == []) = false) (hb : bad s.data.toList = true) :
    Calls Ybaf.prog 6 #[.string s] w fun e w' => (∃ a, e = .returned (.tuple #[.string ⟨#[]⟩, .iface 33 (.pointer (some a))])) ∧ Below w.heap.size w w' := by
  have HB : Hid (bad s.data.toList = true) := hb
  clear hb
  go_enter Ybaf.func6, Ybaf.ntmps6
  go_wp2_with (first
    | (go_at_call 8; refine (Scan.field_any s _ hs).mono ?_; rw [HB.out]; rintro e w1 ⟨rfl, hbl⟩; simp only [Bool.not_true])
    | (go_at_call 9; refine (errorf_type F s _ _ (by show F.answers w1.tape; rw [hbl.tape]; exact hF) (by rw [World.cell?_alloc_at (hn := by simp)]; rfl)).mono ?_; rintro e w2 ⟨rfl, rfl⟩))
  go_ret2
  exact ⟨⟨_, rfl⟩, ((hbl.alloc hbl.size _).alloc (by have := hbl.size; simp; omega) _).drew⟩

set_option maxHeartbeats 1000000 in
theorem media_ok (s : ByteArray) (w : World) (hs : s.size ≤ maxLen) (hne : (s.toList == []) = false) (hb : bad s.data.toList = false) :
    Calls Ybaf.prog 6 #[.string s] w fun e w' => e = .returned (.tuple #[.string s, .nilIface]) ∧ Below w.heap.size w w' := by
  have HB : Hid (bad s.data.toList = false) := hb
  clear hb
  go_enter Ybaf.func6, Ybaf.ntmps6
  go_wp2_with (first
    | (go_at_call 8; refine (Scan.field_any s _ hs).mono ?_; rw [HB.out]; rintro e w1 ⟨rfl, hbl⟩; simp only [Bool.not_false]))
  go_ret2
  exact ⟨rfl, hbl⟩

theorem nonempty_of {s : ByteArray} (h : s ≠ ⟨#[]⟩) : (s.toList == []) = false := by
  have h1 : s.toList ≠ [] := by
    rw [ByteArray.toList_eq]
    intro h2
    apply h
    obtain ⟨d⟩ := s
    simp at h2
    rw [h2]
  simpa using h1

set_option maxHeartbeats 1000000 in
/-- The law's check, at every text: true. -/
theorem check_any (F : Interp) (s : ByteArray) (w : World) (hF : F.answers w.tape) (hs : s.size ≤ maxLen) :
    Calls Ybaf.prog 5 #[.string s] w fun e w' => e = .returned (.bool true) ∧ Below w.heap.size w w' := by
  by_cases he : s = ⟨#[]⟩
  · subst he
    go_enter Ybaf.func5, Ybaf.ntmps5
    go_wp2_with (go_at_call 6; refine (media_empty _).mono ?_; rintro e w1 ⟨rfl, rfl⟩)
    go_ret
    exact ⟨Scan.ret_bool (by first | rfl | kernel_rfl | decide +kernel), Below.refl _ _⟩
  · have hne := nonempty_of he
    by_cases hb : bad s.data.toList = true
    · have HB : Hid (bad s.data.toList = true) := hb
      clear hb he
      go_enter Ybaf.func5, Ybaf.ntmps5
      go_wp2_with (first
        | (go_at_call 6; refine (media_bad F s _ hF hs hne HB.out).mono ?_; rintro e w1 ⟨⟨a, rfl⟩, hbl⟩)
        | (go_at_call 7; refine (Scan.bad_any s _ hs).mono ?_; rw [HB.out]; rintro e w2 ⟨rfl, rfl⟩))
      go_ret
      exact ⟨Scan.ret_bool (by first | rfl | kernel_rfl | decide +kernel), hbl⟩
    · have HB : Hid (bad s.data.toList = false) := (Bool.not_eq_true _ ▸ hb : bad s.data.toList = false)
      clear hb he
      go_enter Ybaf.func5, Ybaf.ntmps5
      go_wp2_with (first
        | (go_at_call 6; refine (media_ok s _ hs hne HB.out).mono ?_; rintro e w1 ⟨rfl, hbl⟩)
        | (go_at_call 7; refine (Scan.bad_any s _ hs).mono ?_; rw [HB.out]; rintro e w2 ⟨rfl, rfl⟩))
      go_ret
      exact ⟨Scan.ret_bool (by first | rfl | simp), hbl⟩

end Go.Proofs.YbulkdfycFmt.Media
