/- 'yarrow.LawS5363ARaw': the row. -/
import Derived.Test.YbulkdgauRawWalk
import Derived.ProofKit
import Derived.OpenShut
import Derived.ShutString
import Derived.ChangeOld
import Derived.Below
import Derived.Deep.Strs
namespace Go.Proofs.Ybulkdgau.lawS5363ARaw
open Go.ChangeShapes Go.WideShapes Go.ChangeAt Go.RowKit
open Go.ChangeMaps (open_string shut_string)

theorem own : ownKnob Yba.prog.godebug = none := by kernel_rfl
theorem laidOut : laidOutB Yba.prog = true := by kernel_rfl
theorem cells9 : Yba.prog.cellsOf 9 = 1 := by kernel_rfl

theorem addr_none {W : World} {a : Addr} {v : Value} (h : W.cell? a = some v) : a = ⟨a.block, a.off, none⟩ ∧ a.block < W.heap.size := by
  obtain ⟨b, o, sp⟩ := a
  unfold World.cell? at h
  cases hb : W.heap[b]? with
  | none => simp [hb] at h
  | some ob =>
    cases sp with
    | none => exact ⟨rfl, Pl.lt_of_heap hb⟩
    | some s => cases ob <;> simp [hb] at h

/-- THE STRINGS THAT CAME IN. -/
theorem open_rest {H : Type} {enc : TypeId × Value → H} {W : World} {base : Nat} {spare : Nat → Bool} {held : Bool} {fuel : Nat} {ao : Option Addr} {len cap : Nat} {x : DataW H × List MemPlace}
    (h : DataW.trod enc Yba.prog W base spare held fuel 23 [.slice ao len cap] = some x) : ∃ R, Pl.InS ao len R W := by
  rcases Deep.open_strs Yba.underlying23 Yba.underlying9 cells9 h with ⟨h0, _⟩ | ⟨a, len', cap', m, Sx, hcs, _, _, _, hmm, _, hx⟩
  · simp at h0
    obtain ⟨rfl, rfl, rfl⟩ := h0
    exact ⟨fun _ => ⟨#[]⟩, fun i hi => absurd hi (Nat.not_lt_zero i)⟩
  · simp at hcs
    obtain ⟨rfl, rfl, rfl⟩ := hcs
    have hlm : len ≤ m := by rw [hmm]; split <;> omega
    refine ⟨Sx, fun i hi => ?_⟩
    have h00 := (hx 0 (by omega)).1
    rw [Addr.add_zero'] at h00
    obtain ⟨ha, hb⟩ := addr_none h00
    have hc := (hx i (by omega)).1
    rw [ha, Addr.add_lit] at hc
    exact ⟨a.block, a.off, by rw [← ha], hb, hc⟩

/-- THE WALK: whatever came in. -/
theorem walk (f : ByteArray) (ao : Option Addr) (len cap : Nat) (R : Nat → ByteArray) (w : World) (hR : Pl.InS ao len R w) :
    Calls Yba.prog 4 #[.string f, .slice ao len cap] w fun e w' => e = .returned (.bool true) ∧ Below w.heap.size w w' := by
  by_cases h : len ≤ 1024
  · exact Pl.raw_short f ao len cap R w h hR
  · exact Pl.raw_long f ao len cap w (by omega)

set_option maxRecDepth 100000 in
theorem lifted (os : Os) (started : os.Started) (H : Type) (enc : TypeId × Value → H) :
    ReturnsInHanded {} Yba.checked os 4 .any (Rows.lawS5363ARawSpec.pre6 enc Yba.prog Yba.f4 Rows.lawS5363ARawRow.domain false) (Rows.lawS5363ARawSpec.post enc Yba.prog Yba.f4 false true false false) := by
  refine returnsInHanded_of_change (C := Yba.checked) own started (by kernel_rfl) Yba.func4
    (ChangeSpec.witness6 (enc := enc) (C := Yba.checked) false ⟨#[], #[.string ⟨#[]⟩, .slice none 0 0], []⟩ 8 (by kernel_rfl) (by kernel_rfl) (by kernel_rfl) (by kernel_rfl)) ?_
  intro W base args ds gs before hval0 hW _ _
  have hval : ∀ (j : Nat) t v, Yba.f4.params[j]? = some t → args[j]? = some v → Value.okWide Yba.prog W .any base t v := hval0
  have hW' := hW
  obtain ⟨p, q, hA0, hV, rfl, _, _⟩ := hW
  have hA : DataW.TrodAll enc Yba.prog W 0 (fun _ => true) true Yba.f4.params.toList args.toList ds p := hA0
  rw [Yba.params4] at hA hval
  obtain ⟨v0, vs0, d0, ds0, p0, q0, hargs, rfl, rfl, h0, r0⟩ := trodAll_cons hA
  obtain ⟨v1, vs1, d1, ds1, p1, q1, rfl, rfl, rfl, h1, r1⟩ := trodAll_cons r0
  obtain ⟨rfl, rfl, rfl⟩ := trodAll_nil r1
  obtain rfl : args = #[v0, v1] := by cases args; simp_all
  obtain ⟨rfl, rfl⟩ := trodVars_none hV
  obtain ⟨f, rfl, rfl, rfl, wf⟩ := open_string Yba.underlying9 (hval 0 9 v0 rfl rfl) h0
  obtain ⟨ao, len, cap, rfl⟩ := okWide_slice Yba.underlying23 (hval 1 23 v1 rfl rfl)
  have k1 := h1
  have lt1 : ∀ x ∈ p1, x.block < W.heap.size := by obtain ⟨m, hm⟩ := k1; exact DataW.trod_lt m _ _ _ hm
  obtain ⟨R, hR⟩ : ∃ R, Pl.InS ao len R W := by
    obtain ⟨fuel, hf⟩ := h1
    exact open_rest hf
  clear hA0 hval0
  refine (walk f ao len cap R W hR).mono fun e W' ⟨he, bel⟩ => ?_
  subst he
  exact ⟨_, rfl, _, _, _, [], _, [], hW', trodAll_mk1 (shut_bool Yba.underlying4 _), trodAll_cons_mk (shut_string Yba.underlying9 wf) (trodAll_cons_mk (Below.trod laidOut (by kernel_rfl) (of_decide_eq_true (by kernel_rfl)) k1 bel lt1) trodAll_mk0), rfl, bel.frame _, fun h => by cases h⟩

theorem over : Rows.lawS5363ARawRow.holds Yba.pinned (OpenSpec.ofChange Rows.lawS5363ARawSpec) :=
  OpenClaim.holds_of_wide 4 Yba.f4 rfl rfl rfl rfl rfl rfl rfl ⟨rfl, rfl, rfl, rfl, rfl⟩ rfl rfl rfl rfl rfl (by kernel_rfl) Yba.func4 (by kernel_rfl)
    (of_decide_eq_true (by kernel_rfl)) (by unfold Func.isWrapper; first | (rw [if_pos (by decide +kernel)]; kernel_rfl) | (rw [if_neg (by decide +kernel)]; exact ⟨rfl, rfl⟩))
    (fun os started H enc _ => lifted os started H enc)

/-- THE STATEMENT. -/
theorem proved : Rows.LawS5363ARawSaid := over
end Go.Proofs.Ybulkdgau.lawS5363ARaw
