/- The walks of 'jsonKind' and of the law's own case table: both compute 'kindOf'. -/
import Derived.Test.YbulkdfycRows
import Derived.WalkKit
import Derived.ProofKit
namespace Go.Proofs.Ybulkdfyc.Kinds

/-- The kind that a first byte names, as the bytes of its name. -/
def kindOf (c : Int) : ByteArray :=
  if c = 123 then ⟨#[111, 98, 106, 101, 99, 116]⟩
  else if c = 91 then ⟨#[97, 114, 114, 97, 121]⟩
  else if c = 34 then ⟨#[115, 116, 114, 105, 110, 103]⟩
  else if c = 116 then ⟨#[98, 111, 111, 108]⟩
  else if c = 102 then ⟨#[98, 111, 111, 108]⟩
  else if c = 110 then ⟨#[110, 117, 108, 108]⟩
  else ⟨#[110, 117, 109, 98, 101, 114]⟩

set_option maxHeartbeats 400000 in
theorem jsonKind_any (c : Int) (w : World) :
    Calls Yba.prog 7 #[.int .u8 c] w fun e w' => e = .returned (.string (kindOf c)) ∧ w' = w := by
  by_cases h1 : c = 123
  · subst h1; go_enter Yba.func7, Yba.ntmps7; go_wp2; go_ret; exact ⟨rfl, rfl⟩
  by_cases h2 : c = 91
  · subst h2; go_enter Yba.func7, Yba.ntmps7; go_wp2; go_ret; exact ⟨rfl, rfl⟩
  by_cases h3 : c = 34
  · subst h3; go_enter Yba.func7, Yba.ntmps7; go_wp2; go_ret; exact ⟨rfl, rfl⟩
  by_cases h4 : c = 116
  · subst h4; go_enter Yba.func7, Yba.ntmps7; go_wp2; go_ret; exact ⟨rfl, rfl⟩
  by_cases h5 : c = 102
  · subst h5; go_enter Yba.func7, Yba.ntmps7; go_wp2; go_ret; exact ⟨rfl, rfl⟩
  by_cases h6 : c = 110
  · subst h6; go_enter Yba.func7, Yba.ntmps7; go_wp2; go_ret; exact ⟨rfl, rfl⟩
  have hk : kindOf c = ⟨#[110, 117, 109, 98, 101, 114]⟩ := by simp [kindOf, h1, h2, h3, h4, h5, h6]
  rw [hk]; clear hk
  go_enter Yba.func7, Yba.ntmps7; go_wp2; go_ret; exact ⟨rfl, rfl⟩

set_option maxHeartbeats 400000 in
theorem model_any (c : Int) (w : World) :
    Calls Yba.prog 8 #[.int .u8 c] w fun e w' => e = .returned (.string (kindOf c)) ∧ w' = w := by
  by_cases h1 : c = 123
  · subst h1; go_enter Yba.func8, Yba.ntmps8; go_wp2; go_ret; exact ⟨rfl, rfl⟩
  by_cases h2 : c = 91
  · subst h2; go_enter Yba.func8, Yba.ntmps8; go_wp2; go_ret; exact ⟨rfl, rfl⟩
  by_cases h3 : c = 34
  · subst h3; go_enter Yba.func8, Yba.ntmps8; go_wp2; go_ret; exact ⟨rfl, rfl⟩
  by_cases h4 : c = 116
  · subst h4; go_enter Yba.func8, Yba.ntmps8; go_wp2; go_ret; exact ⟨rfl, rfl⟩
  by_cases h5 : c = 102
  · subst h5; go_enter Yba.func8, Yba.ntmps8; go_wp2; go_ret; exact ⟨rfl, rfl⟩
  by_cases h6 : c = 110
  · subst h6; go_enter Yba.func8, Yba.ntmps8; go_wp2; go_ret; exact ⟨rfl, rfl⟩
  have hk : kindOf c = ⟨#[110, 117, 109, 98, 101, 114]⟩ := by simp [kindOf, h1, h2, h3, h4, h5, h6]
  rw [hk]; clear hk
  have e4 : (c == 116) = false := by simpa using h4
  have e5 : (c == 102) = false := by simpa using h5
  go_enter Yba.func8, Yba.ntmps8; go_wp2; go_ret; exact ⟨rfl, rfl⟩

end Go.Proofs.Ybulkdfyc.Kinds
