/- The walk of 'zzs5363acheck': over every list of keywords that is not empty it returns true. -/
import Derived.Test.YbulkdgauChain
import Derived.Test.YbulkdgauModelFn
import Derived.LaidEqlPtr
namespace Go.Proofs.Ybulkdgau.Pl
open Go.RowKit

theorem Nodes.drewN {N n : Nat} {k : Nat → ByteArray} {w : World} (h : Nodes N n k w) (m : Nat) : Nodes N n k (w.drewN m) := ⟨h.row, h.st, h.nd, h.up, h.top⟩
theorem below_drewN {B : Nat} {a w : World} (h : Below B a w) (m : Nat) : Below B a (w.drewN m) := ⟨h.os, h.tape, h.output, h.size, h.block⟩

theorem info43 : ∃ j, Yba.prog.info? 43 = some j := by
  have h : (Yba.prog.info? 43).isSome = true := by kernel_rfl
  exact Option.isSome_iff_exists.1 h

/-- 'p != p'. -/
theorem neq_same (w : World) (a : Addr) : (binOp .neq 32 (.pointer (some a)) (.pointer (some a))).run Yba.prog w = .ok (.bool false) w := by
  obtain ⟨j, hj⟩ := info43
  have h : ∀ d : Nat, (Op.equalIn (d + 1) 32 (.pointer (some a)) (.pointer (some a))).run Yba.prog w = .ok true w := fun d => by
    simp [Op.equalIn, run_underlying Yba.underlying32, sizeOf, typeInfo, hj, run_sameAddr_same]
  simp only [binOp]
  simp [Op.equal, Op.maxDepth, h 9999]

set_option maxHeartbeats 2000000 in
theorem check_any (g n cap : Nat) (k : Nat → ByteArray) (w : World) (hg : g < w.heap.size) (hk : ∀ i, i < n → w.cell? ⟨g, i, none⟩ = some (.string (k i))) (hn : 0 < n) (hm : n ≤ 1025) :
    Calls Yba.prog 6 #[.slice (some ⟨g, 0, none⟩) n cap] w fun e w' => e = .returned (.bool true) ∧ Below w.heap.size w w' := by
  obtain ⟨N, hN⟩ : ∃ N, w.heap.size = N := ⟨_, rfl⟩
  have hchain := chain_any g n cap k w N hN (by omega) hk hn hm
  rw [hN] at hg ⊢
  have HK : Hid (∀ i, i < n → w.cell? ⟨g, i, none⟩ = some (.string (k i))) := hk
  obtain ⟨md, hmd⟩ : ∃ md, md = mode k n := ⟨_, rfl⟩
  have HMD : Hid (md = mode k n) := hmd
  clear hk hN hmd
  go_enter Yba.func6, Yba.ntmps6
  go_wp2_with (first
    | (go_at_call 7; refine hchain.mono ?_; rintro e w1 ⟨rfl, hN1, hb1⟩; have y0 := hN1.row 0 hn; simp only [Nat.mul_zero, Nat.add_zero] at y0)
    | (go_at_call 8; refine (mode_any N n k _ hN1 hn).mono ?_; rw [← HMD.out]; rintro e w' ⟨rfl, rfl⟩)
    | (go_at_call 9; refine (model_any g n cap k _ (fun i hi => (hb1.cell (p := ⟨g, i, none⟩) hg).trans (HK.out i hi)) hn hm).mono ?_; rw [← HMD.out]; rintro e w' ⟨rfl, rfl⟩))
  clear y0 hchain HMD
  go_loopw [5] (fun c wr => ∃ i : Nat, i ≤ n ∧ c = .int .i64 i ∧ Nodes N n k wr ∧ Below N w wr) (fun c _ => n - (intOf c).toNat)
  case atStart => exact ⟨0, Nat.zero_le _, rfl, hN1, hb1⟩
  case round =>
    clear hN1 hb1
    obtain ⟨i, hi, rfl, hNo, hb⟩ := hrel
    by_cases hlt : i < n
    · have z0 := hNo.row i hlt
      have z1 := hNo.nd i hlt
      have z2 := hNo.st i hlt
      have z3 := (hb.cell (p := ⟨g, i, none⟩) hg).trans (HK.out i hlt)
      have hfin : ∀ m, Nodes N n k (wr.drewN m) ∧ Below N w (wr.drewN m) := fun m => ⟨hNo.drewN m, below_drewN hb m⟩
      obtain ⟨s, hs⟩ : ∃ s, s = k i := ⟨_, rfl⟩
      rw [← hs] at z2 z3
      obtain ⟨nb, hnb⟩ : ∃ nb, nb = N + 2 * i + 2 := ⟨_, rfl⟩
      obtain ⟨sb, hsb⟩ : ∃ sb, sb = N + 2 * i + 1 := ⟨_, rfl⟩
      rw [← hnb] at z0
      rw [← hnb, ← hsb] at z1
      rw [← hsb] at z2
      by_cases hl2 : i + 1 < n
      · have z4 := hNo.row (i + 1) hl2
        have z5 := hNo.up i hl2
        rw [← hnb] at z5
        obtain ⟨nc, hnc⟩ : ∃ nc, nc = N + 2 * (i + 1) + 2 := ⟨_, rfl⟩
        rw [← hnc] at z4 z5
        have hl3 : (i : Int) + 1 < n := by omega
        have hw : IntKind.i64.wrap ((i : Int) + 1) = (i : Int) + 1 := by rw [IntKind.wrap_i64]; omega
        have hl4 : 0 ≤ (i : Int) + 1 := by omega
        have htn : ((i : Int) + 1).toNat = i + 1 := by omega
        have hpe := neq_same
        clear hs hnb hsb hnc hNo hb
        go_wp2
        go_quiet (fail)
        go_wp2
        go_region
        go_wp2
        go_roundw
        case rel => exact ⟨i + 1, by omega, by go_num, hfin _⟩
        case measure => simp [intOf]; omega
      · have z5 := hNo.top i (by omega)
        rw [← hnb] at z5
        have hl3 : (n : Int) ≤ (i : Int) + 1 := by omega
        clear hs hnb hsb hNo hb
        go_wp2
        go_quiet (fail)
        go_wp2
        go_roundw
        case rel => exact ⟨i + 1, by omega, by go_num, hfin _⟩
        case measure => simp [intOf]; omega
    · obtain rfl : i = n := by omega
      go_wp2
      go_ret
      exact ⟨rfl, hb⟩

end Go.Proofs.Ybulkdgau.Pl
