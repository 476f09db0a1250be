/- The walk of 'zzs5363achain'. -/
import Derived.Test.YbulkdgauCh
import Derived.RegionTactic
import Derived.BigRegion
import Derived.ChangeAlike
import Derived.BigQuiet
import Derived.Deep.QuietTactic
namespace Go.Proofs.Ybulkdgau.Pl
open Go.RowKit

set_option maxHeartbeats 1000000 in
theorem chain_any (g n cap : Nat) (k : Nat → ByteArray) (w : World) (N : Nat) (hN : w.heap.size = N) (hg : g < N) (hk : ∀ i, i < n → w.cell? ⟨g, i, none⟩ = some (.string (k i))) (hn : 0 < n) (hm : n ≤ 1025) :
    Calls Yba.prog 7 #[.slice (some ⟨g, 0, none⟩) n cap] w fun e w' => e = .returned (.slice (some ⟨N, 0, none⟩) n n) ∧ Nodes N n k w' ∧ Below N w w' := by
  have hmk := run_make_ptr N n hm w
  have hch0 := Ch.start n k w
  rw [hN] at hmk hch0
  have hb0 : Below N w (w.alloc (.cells (ptrRow N n 0) 32)) := (Below.refl _ w).alloc (by omega) _
  have HK : Hid (∀ i, i < n → w.cell? ⟨g, i, none⟩ = some (.string (k i))) := hk
  have HNN : Hid (w.heap.size = N) := hN
  clear hk hN
  go_enter Yba.func7, Yba.ntmps7
  go_wp2
  generalize (w.alloc (.cells (ptrRow N n 0) 32)) = w1 at *
  clear hmk
  go_loopw [4] (fun c wr => ∃ j : Nat, j ≤ n ∧ c = .int .i64 j ∧ Ch N n j 0 k wr ∧ Below N w wr) (fun c _ => n - (intOf c).toNat)
  case atStart => exact ⟨0, Nat.zero_le _, rfl, hch0, hb0⟩
  case round =>
    clear hch0 hb0
    obtain ⟨j, hj, rfl, hC, hb⟩ := hrel
    by_cases hlt : j < n
    · have y1 := (hb.cell (p := ⟨g, j, none⟩) hg).trans (HK.out j hlt)
      have hL := hC.lay hlt
      have c1 : wr.cell? ⟨N, j, none⟩ = some (.pointer none) := by
        refine (cell_of_row wr _ _ _ _ _ hC.row).trans ?_
        rw [ptrRow_at hlt]
        simp [ptrAt]
      have f1 : wr.frozen? ⟨N, j, none⟩ = false := frozen_of_row wr _ _ _ _ hC.row
      have hNlt := lt_of_heap hC.row
      have hNlt2 : N < wr.heap.size + 1 := by omega
      obtain ⟨s, hs⟩ : ∃ s, s = k j := ⟨_, rfl⟩
      rw [← hs] at y1 hL
      have e2 : N + 2 * j + 2 = wr.heap.size + 1 := by rw [hC.sz]
      rw [e2, ← hC.sz] at hL
      have hb2 : Below N w (((wr.setCell ⟨N, j, none⟩ (.pointer (some ⟨wr.heap.size + 1, 0, none⟩))).alloc (.cells (stC s) 38)).alloc (.cells (ndC wr.heap.size (.pointer none)) 43)) :=
        ((hb.setCell (Nat.le_refl _) _).alloc (by simp [World.setCell]; omega) _).alloc (by simp [World.setCell]; omega) _
      clear hs e2 hC
      go_wp2
      go_roundw
      case rel => exact ⟨j + 1, by omega, by go_num, hL, hb2⟩
      case measure => simp [intOf]; omega
    · obtain rfl : j = n := by omega
      go_wp2
      go_loopw [5] (fun c wr => ∃ i : Nat, i + 1 ≤ j ∧ c = .int .i64 i ∧ Ch N j j i k wr ∧ Below N w wr) (fun c _ => j - (intOf c).toNat)
      case atStart => exact ⟨0, by omega, rfl, hC, hb⟩
      case round =>
        clear hC hb
        obtain ⟨i, hi, rfl, hC, hb⟩ := hrel
        by_cases hl2 : i + 1 < j
        · have y0 : wr.cell? ⟨N, i, none⟩ = some (.pointer (some ⟨N + 2 * i + 2, 0, none⟩)) := by
            refine (cell_of_row wr _ _ _ _ _ hC.row).trans ?_
            rw [ptrRow_at (by omega)]
            simp [ptrAt, show i < j by omega]
          have y1 : wr.cell? ⟨N, i + 1, none⟩ = some (.pointer (some ⟨N + 2 * (i + 1) + 2, 0, none⟩)) := by
            refine (cell_of_row wr _ _ _ _ _ hC.row).trans ?_
            rw [ptrRow_at (by omega)]
            simp [ptrAt, hl2]
          have y2 : wr.cell? ⟨N + 2 * i + 2, 2, none⟩ = some (.pointer none) := by
            refine (cell_of_row wr _ _ _ _ _ (hC.nd i (by omega))).trans ?_
            simp [ndC, par]
          have f2 : wr.frozen? ⟨N + 2 * i + 2, 2, none⟩ = false := frozen_of_row wr _ _ _ _ (hC.nd i (by omega))
          have hL := hC.link hl2
          have hb2 : Below N w (wr.setCell ⟨N + 2 * i + 2, 2, none⟩ (.pointer (some ⟨N + 2 * (i + 1) + 2, 0, none⟩))).drew := (hb.setCell (by show N ≤ N + 2 * i + 2; omega) _).drew
          obtain ⟨nb, hnb⟩ : ∃ nb, nb = N + 2 * i + 2 := ⟨_, rfl⟩
          obtain ⟨nc, hnc⟩ : ∃ nc, nc = N + 2 * (i + 1) + 2 := ⟨_, rfl⟩
          rw [← hnb] at y0 y2 f2
          rw [← hnc] at y1
          rw [← hnb, ← hnc] at hL hb2
          clear hnb hnc hC hb
          go_wp2
          go_region
          go_wp2
          go_roundw
          case rel => exact ⟨i + 1, by omega, by go_num, hL, hb2⟩
          case measure => simp [intOf]; omega
        · obtain rfl : i + 1 = j := by omega
          go_wp2
          go_ret
          exact ⟨rfl, hC.nodes rfl, hb⟩

end Go.Proofs.Ybulkdgau.Pl
