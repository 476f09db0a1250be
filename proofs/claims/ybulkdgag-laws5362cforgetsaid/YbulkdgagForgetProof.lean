/- 'pawl.LawS5362CForget': the row. -/
import Derived.Test.YbulkdgagForgetPick
import Derived.Test.YbulkdgagForgetOdd
import Derived.Test.YbulkdgagForgetNone
import Derived.Test.YbulkdgagOpen
import Derived.ProofKit
import Derived.OpenShut
import Derived.ChangeOld
import Derived.Below
namespace Go.Proofs.Ybulkdgag.lawS5362CForget
open Go.ChangeShapes Go.WideShapes Go.ChangeAt Go.RowKit

theorem own : ownKnob Yba.prog.godebug = none := by kernel_rfl
theorem laidOut : laidOutB Yba.prog = true := by kernel_rfl

set_option maxRecDepth 1000000 in
theorem long (a0 pick : Int) (ao : Option Addr) (len cap : Nat) (k : Pm.Key) (w : World) (h : (1024 : Int) < (len : Int)) :
    Calls Yba.prog 3 #[.int .u8 a0, .slice ao len cap, .int .u8 pick, .agg #[.int .u8 k.1, .int .i64 k.2.1, .int .i32 k.2.2.1, .int .u8 k.2.2.2]] w fun e w' => e = .returned (.bool true) ∧ Below w.heap.size w w' := by
  go_enter Yba.func3, Yba.ntmps3
  go_wp2
  go_ret
  exact ⟨rfl, (Below.refl _ w).alloc (Nat.le_refl _) _⟩

/-- THE WALK: whatever came in. -/
theorem walk (a0 pick : Int) (ao : Option Addr) (len cap : Nat) (X : Nat → Pm.Key) (k : Pm.Key) (w : World) (w0 : (Lit.int .u8 a0).wf = true) (w2 : (Lit.int .u8 pick).wf = true) (hX : Pm.In ao len X w)
    (hk : (Lit.int .u8 k.1).wf = true ∧ (Lit.int .i64 k.2.1).wf = true ∧ (Lit.int .i32 k.2.2.1).wf = true ∧ (Lit.int .u8 k.2.2.2).wf = true) :
    Calls Yba.prog 3 #[.int .u8 a0, .slice ao len cap, .int .u8 pick, .agg #[.int .u8 k.1, .int .i64 k.2.1, .int .i32 k.2.2.1, .int .u8 k.2.2.2]] w fun e w' => e = .returned (.bool true) ∧ Below w.heap.size w w' := by
  by_cases h : len ≤ 1024
  · have hb := Pm.u8_bd w0
    have hp := Pm.u8_bd w2
    obtain ⟨nv, hnv⟩ : ∃ nv : Nat, a0 % 8 + 1 = (nv : Int) := ⟨(a0 % 8 + 1).toNat, by omega⟩
    by_cases hev : pick % 2 = 0
    · by_cases hpos : 0 < len
      · exact Pm.forget_pick a0 pick k.1 k.2.1 k.2.2.1 k.2.2.2 nv ao len cap X w hb.1 hb.2 hnv h hX hp.1 hp.2 hev hpos
      · exact Pm.forget_none a0 pick k.1 k.2.1 k.2.2.1 k.2.2.2 nv ao len cap X w hb.1 hb.2 hnv h hX hp.1 hp.2 hev (by omega) hk
    · exact Pm.forget_odd a0 pick k.1 k.2.1 k.2.2.1 k.2.2.2 nv ao len cap X w hb.1 hb.2 hnv h hX hp.1 hp.2 (by simpa using hev) hk
  · exact long a0 pick ao len cap k w (by omega)

set_option maxRecDepth 100000 in
theorem lifted (os : Os) (started : os.Started) (H : Type) (enc : TypeId × Value → H) :
    ReturnsInHanded {} Yba.checked os 3 .any (Rows.lawS5362CForgetSpec.pre6 enc Yba.prog Yba.f3 Rows.lawS5362CForgetRow.domain false) (Rows.lawS5362CForgetSpec.post enc Yba.prog Yba.f3 false true false false) := by
  refine returnsInHanded_of_change (C := Yba.checked) own started (by kernel_rfl) Yba.func3
    (ChangeSpec.witness6 (enc := enc) (C := Yba.checked) false ⟨#[], #[.int .u8 0, .slice none 0 0, .int .u8 0, .agg #[.int .u8 0, .int .i64 0, .int .i32 0, .int .u8 0]], []⟩ 8 (by kernel_rfl) (by kernel_rfl) (by kernel_rfl) (by kernel_rfl)) ?_
  intro W base args ds gs before hval0 hW _ _
  have hval : ∀ (j : Nat) t v, Yba.f3.params[j]? = some t → args[j]? = some v → Value.okWide Yba.prog W .any base t v := hval0
  have hW' := hW
  obtain ⟨p, q, hA0, hV, rfl, _, _⟩ := hW
  have hA : DataW.TrodAll enc Yba.prog W 0 (fun _ => true) true Yba.f3.params.toList args.toList ds p := hA0
  rw [Yba.params3] at hA hval
  obtain ⟨v0, vs0, d0, ds0, p0, q0, hargs, rfl, rfl, h0, r0⟩ := trodAll_cons hA
  obtain ⟨v1, vs1, d1, ds1, p1, q1, rfl, rfl, rfl, h1, r1⟩ := trodAll_cons r0
  obtain ⟨v2, vs2, d2, ds2, p2, q2, rfl, rfl, rfl, h2, r2⟩ := trodAll_cons r1
  obtain ⟨v3, vs3, d3, ds3, p3, q3, rfl, rfl, rfl, h3, r3⟩ := trodAll_cons r2
  obtain ⟨rfl, rfl, rfl⟩ := trodAll_nil r3
  obtain rfl : args = #[v0, v1, v2, v3] := by cases args; simp_all
  obtain ⟨rfl, rfl⟩ := trodVars_none hV
  obtain ⟨a0, rfl, rfl, rfl, w0⟩ := open_int Yba.underlying5 (hval 0 5 v0 rfl rfl) h0
  obtain ⟨ao, len, cap, rfl⟩ := okWide_slice Yba.underlying22 (hval 1 22 v1 rfl rfl)
  obtain ⟨pick, rfl, rfl, rfl, w2⟩ := open_int Yba.underlying5 (hval 2 5 v2 rfl rfl) h2
  obtain ⟨cs, rfl, _⟩ := okWide_struct Yba.underlying24 (hval 3 24 v3 rfl rfl)
  have k1 := h1
  have lt1 : ∀ x ∈ p1, x.block < W.heap.size := by obtain ⟨m, hm⟩ := k1; exact DataW.trod_lt m _ _ _ hm
  have k3 := h3
  have lt3 : ∀ x ∈ p3, x.block < W.heap.size := by obtain ⟨m, hm⟩ := k3; exact DataW.trod_lt m _ _ _ hm
  obtain ⟨X, hX⟩ : ∃ X, Pm.In ao len X W := by
    obtain ⟨fuel, hf⟩ := h1
    exact Pm.open_steps hf
  obtain ⟨k, hcs, hk⟩ : ∃ k : Pm.Key, cs = #[.int .u8 k.1, .int .i64 k.2.1, .int .i32 k.2.2.1, .int .u8 k.2.2.2] ∧
      ((Lit.int .u8 k.1).wf = true ∧ (Lit.int .i64 k.2.1).wf = true ∧ (Lit.int .i32 k.2.2.1).wf = true ∧ (Lit.int .u8 k.2.2.2).wf = true) := by
    obtain ⟨fuel, hf⟩ := h3
    obtain ⟨k, e, _, hk⟩ := Pm.open_step hf
    refine ⟨k, ?_, hk⟩
    obtain ⟨l⟩ := cs
    simp [Value.cells] at e
    rw [e]
  subst hcs
  clear hA0 hval0
  refine (walk a0 pick ao len cap X k W w0 w2 hX hk).mono fun e W' ⟨he, bel⟩ => ?_
  subst he
  exact ⟨_, rfl, _, _, _, [], _, [], hW', trodAll_mk1 (shut_bool Yba.underlying4 _), trodAll_cons_mk (shut_int Yba.underlying5 w0) (trodAll_cons_mk (Below.trod laidOut (by kernel_rfl) (of_decide_eq_true (by kernel_rfl)) k1 bel lt1) (trodAll_cons_mk (shut_int Yba.underlying5 w2) (trodAll_cons_mk (Below.trod laidOut (by kernel_rfl) (of_decide_eq_true (by kernel_rfl)) k3 bel lt3) trodAll_mk0))), rfl, bel.frame _, fun h => by cases h⟩

theorem over : Rows.lawS5362CForgetRow.holds Yba.pinned (OpenSpec.ofChange Rows.lawS5362CForgetSpec) :=
  OpenClaim.holds_of_wide 3 Yba.f3 rfl rfl rfl rfl rfl rfl rfl ⟨rfl, rfl, rfl, rfl, rfl⟩ rfl rfl rfl rfl rfl (by kernel_rfl) Yba.func3 (by kernel_rfl)
    (of_decide_eq_true (by kernel_rfl)) (by unfold Func.isWrapper; first | (rw [if_pos (by decide +kernel)]; kernel_rfl) | (rw [if_neg (by decide +kernel)]; exact ⟨rfl, rfl⟩))
    (fun os started H enc _ => lifted os started H enc)

/-- THE STATEMENT. -/
theorem proved : Rows.LawS5362CForgetSaid := over
end Go.Proofs.Ybulkdgag.lawS5362CForget
