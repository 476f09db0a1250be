/- 'yarrow.LawS5363AModel': the row. -/
import Derived.Test.YbulkdgauModelWalk
import Derived.ProofKit
import Derived.OpenShut
import Derived.ChangeOld
import Derived.Below
namespace Go.Proofs.Ybulkdgau.lawS5363AModel
open Go.ChangeShapes Go.WideShapes Go.ChangeAt Go.RowKit

theorem own : ownKnob Yba.prog.godebug = none := by kernel_rfl
theorem laidOut : laidOutB Yba.prog = true := by kernel_rfl
theorem cells5 : Yba.prog.cellsOf 5 = 1 := by kernel_rfl

theorem addr_none {W : World} {a : Addr} {v : Value} (h : W.cell? a = some v) : a = ⟨a.block, a.off, none⟩ ∧ a.block < W.heap.size := by
  obtain ⟨b, o, sp⟩ := a
  unfold World.cell? at h
  cases hb : W.heap[b]? with
  | none => simp [hb] at h
  | some ob =>
    cases sp with
    | none => exact ⟨rfl, Pl.lt_of_heap hb⟩
    | some s => cases ob <;> simp [hb] at h

/-- THE BYTES THAT CAME IN. -/
theorem open_sel {H : Type} {enc : TypeId × Value → H} {W : World} {fuel : Nat} {ao : Option Addr} {len cap : Nat} {x : DataW H × List MemPlace}
    (h : DataW.trod enc Yba.prog W 0 (fun _ => true) true fuel 22 [.slice ao len cap] = some x) : ∃ Z, Pl.InB ao len Z W := by
  rcases open_ints Yba.underlying22 Yba.underlying5 cells5 h with ⟨hcs, _⟩ | ⟨a, len', cap', zs, hcs, _, hl, _, hz, _, hcell, hwz⟩
  · simp at hcs
    obtain ⟨rfl, rfl, rfl⟩ := hcs
    exact ⟨fun _ => 0, fun i hi => absurd hi (Nat.not_lt_zero i)⟩
  · simp at hcs
    obtain ⟨rfl, rfl, rfl⟩ := hcs
    simp only [if_true] at hz
    refine ⟨fun i => zs.getD i 0, fun i hi => ?_⟩
    have h00 := hcell 0 (by omega)
    rw [Addr.add_zero'] at h00
    obtain ⟨ha, hb⟩ := addr_none h00
    have hc := hcell i (by omega)
    rw [ha, Addr.add_lit] at hc
    have hw : (Lit.int .u8 (zs.getD i 0)).wf = true := by
      have hk' : i < zs.length := by omega
      have : zs.getD i 0 = zs[i] := by simp [List.getD, hk']
      rw [this]
      exact hwz _ (List.getElem_mem hk')
    have hr : 0 ≤ zs.getD i 0 ∧ zs.getD i 0 ≤ 255 := by
      simpa [Lit.wf, IntKind.min, IntKind.max, IntKind.bits, IntKind.signed] using hw
    exact ⟨a.block, a.off, by rw [← ha], hb, hc, hr.1, hr.2⟩

/-- THE WALK: whatever came in. -/
theorem walk (ao : Option Addr) (len cap : Nat) (Z : Nat → Int) (w : World) (hZ : Pl.InB ao len Z w) :
    Calls Yba.prog 3 #[.slice ao len cap] w fun e w' => e = .returned (.bool true) ∧ Below w.heap.size w w' := by
  by_cases h : len ≤ 1024
  · exact Pl.model_short ao len cap Z w h hZ
  · exact Pl.model_long ao len cap w (by omega)

set_option maxRecDepth 100000 in
theorem lifted (os : Os) (started : os.Started) (H : Type) (enc : TypeId × Value → H) :
    ReturnsInHanded {} Yba.checked os 3 .any (Rows.lawS5363AModelSpec.pre6 enc Yba.prog Yba.f3 Rows.lawS5363AModelRow.domain false) (Rows.lawS5363AModelSpec.post enc Yba.prog Yba.f3 false true false false) := by
  refine returnsInHanded_of_change (C := Yba.checked) own started (by kernel_rfl) Yba.func3
    (ChangeSpec.witness6 (enc := enc) (C := Yba.checked) false ⟨#[], #[.slice none 0 0], []⟩ 8 (by kernel_rfl) (by kernel_rfl) (by kernel_rfl) (by kernel_rfl)) ?_
  intro W base args ds gs before hval0 hW _ _
  have hval : ∀ (j : Nat) t v, Yba.f3.params[j]? = some t → args[j]? = some v → Value.okWide Yba.prog W .any base t v := hval0
  have hW' := hW
  obtain ⟨p, q, hA0, hV, rfl, _, _⟩ := hW
  have hA : DataW.TrodAll enc Yba.prog W 0 (fun _ => true) true Yba.f3.params.toList args.toList ds p := hA0
  rw [Yba.params3] at hA hval
  obtain ⟨v0, vs0, d0, ds0, p0, q0, hargs, rfl, rfl, h0, r0⟩ := trodAll_cons hA
  obtain ⟨rfl, rfl, rfl⟩ := trodAll_nil r0
  obtain rfl : args = #[v0] := by cases args; simp_all
  obtain ⟨rfl, rfl⟩ := trodVars_none hV
  obtain ⟨a0, len0, cap0, rfl⟩ := okWide_slice Yba.underlying22 (hval 0 22 v0 rfl rfl)
  have k0 := h0
  have lt0 : ∀ x ∈ p0, x.block < W.heap.size := by obtain ⟨m, hm⟩ := k0; exact DataW.trod_lt m _ _ _ hm
  obtain ⟨Z, hZ⟩ : ∃ Z, Pl.InB a0 len0 Z W := by
    obtain ⟨fuel, hf⟩ := h0
    exact open_sel hf
  clear hA0 hval0
  refine (walk a0 len0 cap0 Z W hZ).mono fun e W' ⟨he, bel⟩ => ?_
  subst he
  exact ⟨_, rfl, _, _, _, [], _, [], hW', trodAll_mk1 (shut_bool Yba.underlying4 _), (trodAll_cons_mk (Below.trod laidOut (by kernel_rfl) (of_decide_eq_true (by kernel_rfl)) k0 bel lt0) trodAll_mk0), rfl, bel.frame _, fun h => by cases h⟩

theorem over : Rows.lawS5363AModelRow.holds Yba.pinned (OpenSpec.ofChange Rows.lawS5363AModelSpec) :=
  OpenClaim.holds_of_wide 3 Yba.f3 rfl rfl rfl rfl rfl rfl rfl ⟨rfl, rfl, rfl, rfl, rfl⟩ rfl rfl rfl rfl rfl (by kernel_rfl) Yba.func3 (by kernel_rfl)
    (of_decide_eq_true (by kernel_rfl)) (by unfold Func.isWrapper; first | (rw [if_pos (by decide +kernel)]; kernel_rfl) | (rw [if_neg (by decide +kernel)]; exact ⟨rfl, rfl⟩))
    (fun os started H enc _ => lifted os started H enc)

/-- THE STATEMENT. -/
theorem proved : Rows.LawS5363AModelSaid := over
end Go.Proofs.Ybulkdgau.lawS5363AModel
