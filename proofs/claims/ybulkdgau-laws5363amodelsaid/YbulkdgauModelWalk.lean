/- The walk of 'LawS5363AModel'. -/
import Derived.Test.YbulkdgauRawWalk
namespace Go.Proofs.Ybulkdgau.Pl
open Go.RowKit

/-- The keyword that a byte picks. -/
def kwOf (x : Int) : ByteArray :=
  if x % 10 = 0 then ⟨#[99, 111, 110, 116, 97, 105, 110, 101, 114]⟩
  else if x % 10 = 1 then ⟨#[108, 105, 115, 116]⟩
  else if x % 10 = 2 then ⟨#[108, 101, 97, 102]⟩
  else if x % 10 = 3 then ⟨#[105, 110, 112, 117, 116]⟩
  else if x % 10 = 4 then ⟨#[111, 117, 116, 112, 117, 116]⟩
  else if x % 10 = 5 then ⟨#[110, 111, 116, 105, 102, 105, 99, 97, 116, 105, 111, 110]⟩
  else if x % 10 = 6 then ⟨#[114, 112, 99]⟩
  else if x % 10 = 7 then ⟨#[97, 99, 116, 105, 111, 110]⟩
  else if x % 10 = 8 then ⟨#[99, 104, 111, 105, 99, 101]⟩
  else ⟨#[99, 97, 115, 101]⟩

theorem ret_str {a b : ByteArray} (h : a = b) : Ending.returned (.string a) = .returned (.string b) := by rw [h]

set_option maxHeartbeats 1000000 in
theorem kw_any (x : Int) (w : World) (h0 : 0 ≤ x) (h1 : x ≤ 255) :
    Calls Yba.prog 5 #[.int .u8 x] w fun e w' => e = .returned (.string (kwOf x)) ∧ w' = w := by
  obtain ⟨r, hr⟩ : ∃ r, x % 10 = r := ⟨_, rfl⟩
  have hb : 0 ≤ r ∧ r ≤ 9 := by omega
  have HK : Hid (kwOf x = if r = 0 then ⟨#[99, 111, 110, 116, 97, 105, 110, 101, 114]⟩
    else if r = 1 then ⟨#[108, 105, 115, 116]⟩
    else if r = 2 then ⟨#[108, 101, 97, 102]⟩
    else if r = 3 then ⟨#[105, 110, 112, 117, 116]⟩
    else if r = 4 then ⟨#[111, 117, 116, 112, 117, 116]⟩
    else if r = 5 then ⟨#[110, 111, 116, 105, 102, 105, 99, 97, 116, 105, 111, 110]⟩
    else if r = 6 then ⟨#[114, 112, 99]⟩
    else if r = 7 then ⟨#[97, 99, 116, 105, 111, 110]⟩
    else if r = 8 then ⟨#[99, 104, 111, 105, 99, 101]⟩
    else ⟨#[99, 97, 115, 101]⟩) := by show _ = _; unfold kwOf; rw [hr]
  obtain rfl | rfl | rfl | rfl | rfl | rfl | rfl | rfl | rfl | rfl : r = 0 ∨ r = 1 ∨ r = 2 ∨ r = 3 ∨ r = 4 ∨ r = 5 ∨ r = 6 ∨ r = 7 ∨ r = 8 ∨ r = 9 := by omega
  all_goals
    clear hb
    go_enter Yba.func5, Yba.ntmps5
    go_wp2
    go_ret
    exact ⟨ret_str HK.out.symm, rfl⟩

/-- What is read of the bytes that came in. -/
def InB (ao : Option Addr) (len : Nat) (Z : Nat → Int) (w : World) : Prop :=
  ∀ i, i < len → ∃ b off, ao = some ⟨b, off, none⟩ ∧ b < w.heap.size ∧ w.cell? ⟨b, off + i, none⟩ = some (.int .u8 (Z i)) ∧ 0 ≤ Z i ∧ Z i ≤ 255

theorem model_long (ao : Option Addr) (len cap : Nat) (w : World) (h : (1024 : Int) < (len : Int)) :
    Calls Yba.prog 3 #[.slice ao len cap] w fun e w' => e = .returned (.bool true) ∧ Below w.heap.size w w' := by
  go_enter Yba.func3, Yba.ntmps3
  go_wp2
  go_ret
  exact ⟨rfl, Below.refl _ _⟩

set_option maxHeartbeats 1000000 in
theorem model_short (ao : Option Addr) (len cap : Nat) (Z : Nat → Int) (w : World) (hlen : len ≤ 1024) (hZ : InB ao len Z w) :
    Calls Yba.prog 3 #[.slice ao len cap] w fun e w' => e = .returned (.bool true) ∧ Below w.heap.size w w' := by
  obtain ⟨i0, hi, hz0, hz1, hz2⟩ := info_parts info9
  obtain ⟨B, hB⟩ : ∃ B, w.heap.size = B := ⟨_, rfl⟩
  have hZB : ∀ i, i < len → ∃ b off, ao = some ⟨b, off, none⟩ ∧ b < B ∧ w.cell? ⟨b, off + i, none⟩ = some (.int .u8 (Z i)) ∧ 0 ≤ Z i ∧ Z i ≤ 255 := by rw [← hB]; exact hZ
  rw [hB]
  clear hZ
  obtain ⟨k, hk⟩ : ∃ k, k = fun i => kwOf (Z i) := ⟨_, rfl⟩
  have HK : Hid (∀ i, k i = kwOf (Z i)) := fun i => by rw [hk]
  clear hk
  go_enter Yba.func3, Yba.ntmps3
  go_wp2_with (at_make; refine wpList_make_own _ rfl _ _ 23 rfl B 9 i0 (.string ⟨#[]⟩) 1 Yba.underlying23 hi hz0 hz1 _ _ _ (len + 1) rfl rfl (by omega) (by rw [hz2]; omega) (by unfold maxLen; omega) (by omega) ?_; intro w1 hown1 hgrow1; rw [hB] at hown1)
  have hown0 : w1.ownsRow B 9 1 (.slice (some ⟨B, 0, none⟩) 0 (len + 1)) 0 (scells k 0) := hown1
  have hb2 : Below B w w1 := (Below.refl B w).grown hgrow1 (by omega) (fun k h => by cases h)
  have hs2 : B < w1.heap.size := by
    rcases hown1.2 with ⟨h, _⟩ | ⟨g', c', cur, h, _, h4, _⟩
    · cases h
    · simp only [Value.slice.injEq, Option.some.injEq, Addr.mk.injEq, and_true, true_and] at h
      rw [← h.1] at h4
      exact lt_of_heap h4
  clear hown1 hgrow1 hB
  go_loopw [3, 4] (fun v c wr => ∃ i : Nat, i ≤ len ∧ c = .int .i64 i ∧ v = .slice (some ⟨B, 0, none⟩) i (len + 1) ∧ wr.ownsRow B 9 1 (.slice (some ⟨B, 0, none⟩) i (len + 1)) i (scells k i) ∧ B < wr.heap.size ∧ Below B w wr)
    (fun _ c _ => len - (intOf c).toNat)
  case atStart => exact ⟨0, Nat.zero_le _, rfl, rfl, hown0, hs2, hb2⟩
  case round =>
    clear hown0 hs2 hb2
    obtain ⟨i, hil, rfl, rfl, hown, hs, hb⟩ := hrel
    by_cases hlt : i < len
    · obtain ⟨b, off, rfl, hbB, hc, hz3, hz4⟩ := hZB i hlt
      have y1 := (hb.cell (p := ⟨b, off + i, none⟩) hbB).trans hc
      obtain ⟨z, hz⟩ : ∃ z, z = Z i := ⟨_, rfl⟩
      rw [← hz] at y1 hz3 hz4
      have HS : Hid (k i = kwOf z) := by show _ = _; rw [HK.out i, hz]
      obtain ⟨s, hs0⟩ : ∃ s, s = kwOf z := ⟨_, rfl⟩
      have HSS : Hid (s = kwOf z) := hs0
      clear hz hc hZB hs0
      go_wp2_with (first
        | (go_at_call 5; refine (kw_any z _ hz3 hz4).mono ?_; rw [← HSS.out]; rintro e w' ⟨rfl, rfl⟩)
        | (at_builtin; refine wpList_append_fits _ rfl (.tmp 18) (.tmp 24) 23 rfl B 9 i0 1 Yba.underlying23 hi hz1 B i (len + 1) _ rfl (hown.alloc _) ⟨_, 0, none⟩ 1 1 [.string s] rfl rfl (new1 _ _ _) (by intro u hu; simp at hu; subst hu; rfl) (by omega) ?_; intro w3 hown3 hgrow3))
      have hown4 : w3.ownsRow B 9 1 (.slice (some ⟨B, 0, none⟩) (i + 1) (len + 1)) (i + 1) (scells k (i + 1)) := by
        rw [scells, HS.out, ← HSS.out]
        exact hown3
      have hb3 : Below B w w3 := (hb.alloc (by omega) _).grown hgrow3 (by simp; omega) (fun k h => by cases h; exact Nat.le_refl _)
      have hs3 : B < w3.heap.size := by have := hgrow3.size; simp at this; omega
      clear hown3 hgrow3
      go_roundw
      case rel => exact ⟨i + 1, by omega, by go_num, rfl, hown4, hs3, hb3⟩
      case measure => simp [intOf]; omega
    · obtain rfl : i = len := by omega
      rcases Nat.eq_zero_or_pos i with hi0 | hpos
      · subst hi0
        have hownz : wr.ownsRow B 9 1 (.slice (some ⟨B, 0, none⟩) 0 1) 0 [] := hown
        clear hZB hown
        go_wp2_with (first
          | (at_builtin; refine wpList_append_fits _ rfl (.tmp 29) (.tmp 30) 23 rfl B 9 i0 1 Yba.underlying23 hi hz1 B 0 1 _ rfl (hownz.alloc _) ⟨wr.heap.size, 0, none⟩ 1 1 [.string ⟨#[99, 111, 110, 116, 97, 105, 110, 101, 114]⟩] rfl rfl (new1 wr _ _) (by intro u hu; simp at hu; subst hu; rfl) (by omega) ?_; intro w3 hown3 hgrow3; have hb3 : Below B w w3 := (hb.alloc (by omega) _).grown hgrow3 (by simp; omega) (fun k h => by cases h; exact Nat.le_refl _); have hs3 : B < w3.heap.size := (by have := hgrow3.size; simp at this; omega); have hchk := check_any B 1 1 (fun _ => ⟨#[99, 111, 110, 116, 97, 105, 110, 101, 114]⟩) w3 hs3 (fun c hc => (hown3.cellAt c (by omega)).trans (by have hc0 : c = 0 := (by omega); subst hc0; rfl)) (by omega) (by omega))
          | (go_at_call 6; refine hchk.mono ?_; rintro e w4 ⟨rfl, hb4⟩))
        go_ret
        exact ⟨rfl, hb3.trans (hb4.mono (by omega))⟩
      · have hcells : ∀ c, c < i → wr.cell? ⟨B, c, none⟩ = some (.string (k c)) := fun c hc => (hown.cellAt c (by omega)).trans (scells_at k hc)
        have hchk := check_any B i (i + 1) k wr hs hcells hpos (by omega)
        have hne : ((i : Int) == 0) = false := by simp; omega
        clear hcells hZB hown
        go_wp2_with (go_at_call 6; refine hchk.mono ?_; rintro e w3 ⟨rfl, hb3⟩)
        go_ret
        exact ⟨rfl, hb.trans (hb3.mono (by omega))⟩

end Go.Proofs.Ybulkdgau.Pl
