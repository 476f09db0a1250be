/- The walk of 'slot.LawS5358ABuilt': whatever text the table gives, the check says true of it. -/
import Derived.Test.YbulkdfycFmtMedia
import Derived.Carry
namespace Go.Proofs.YbulkdfycFmt.Build
open Go.RowKit Go.Extern.Stop Go.Stop Go.Extern
def intOf : Value → Int | .int _ q => q | _ => 0
/-- Bytes as cells. -/
def cellsOf (bs : List UInt8) : List Value := bs.map fun b => .int .u8 (b.toNat : Int)

theorem info5 : (Ybaf.prog.info? 5).map (fun i => (i.zero, i.size, i.bytes)) = some (some (.int .u8 0), 1, 1) := by kernel_rfl

theorem walk_long (ao : Option Addr) (len cap : Nat) (w : World) (h : (4096 : Int) < (len : Int)) :
    Calls Ybaf.prog 4 #[.slice ao len cap] w fun e w' => e = .returned (.bool true) ∧ Below w.heap.size w w' := by
  go_enter Ybaf.func4, Ybaf.ntmps4
  go_wp2
  go_ret
  exact ⟨rfl, Below.refl _ _⟩

set_option maxHeartbeats 1000000 in
theorem walk_short (F : Interp) (ao : Option Addr) (len cap : Nat) (Z : List Int) (w : World) (hF : F.answers w.tape) (h : len ≤ 4096)
    (hz : ∀ k, k < len → ∃ a : Addr, ao = some a ∧ a.block < w.heap.size ∧ w.cell? (a.add k) = some (.int .u8 (Z.getD k 0)) ∧ 0 ≤ Z.getD k 0 ∧ Z.getD k 0 ≤ 255) :
    Calls Ybaf.prog 4 #[.slice ao len cap] w fun e w' => e = .returned (.bool true) ∧ Below w.heap.size w w' := by
  obtain ⟨i0, hi, hz0, hz1, hz2⟩ := info_parts info5
  go_enter Ybaf.func4, Ybaf.ntmps4
  go_wp2_with (at_make; refine wpList_make_own _ rfl _ _ 23 rfl w.heap.size 5 i0 (.int .u8 0) 1 Ybaf.underlying23 hi hz0 hz1 _ _ _ len rfl rfl (by omega) ?b2 ?b3 (Nat.le_refl _) ?_)
  case b2 => rw [hz2]; omega
  case b3 => unfold maxLen; omega
  intro w0 hown0 hgrow0
  go_wp2
  go_loopw [3, 4] (fun v i wr => ∃ (k : Nat) (bs : List UInt8), k ≤ len ∧ bs.length = k ∧ i = .int .i64 k ∧ v = .slice (some ⟨w.heap.size, 0, none⟩) k len ∧
      wr.ownsRow w.heap.size 5 1 (.slice (some ⟨w.heap.size, 0, none⟩) k len) k (cellsOf bs) ∧ Below w.heap.size w wr)
    (fun _ i _ => len - (intOf i).toNat)
  case atStart => exact ⟨0, [], Nat.zero_le _, rfl, rfl, rfl, hown0, (Below.refl _ _).grown hgrow0 (Nat.le_refl _) (fun k h => by cases h)⟩
  case round =>
    obtain ⟨k, bs, hk, hbl, rfl, rfl, hown, hnx⟩ := hrel
    by_cases hlt : k < len
    · obtain ⟨a, rfl, hab, hc, hz3, hz4⟩ := hz k hlt
      have hcr : wr.cell? (a.add k) = some (.int .u8 (Z.getD k 0)) := (hnx.cell (p := a.add k) (by unfold Addr.add; split <;> exact hab)).trans hc
      obtain ⟨z, hzz⟩ : ∃ z, z = Z.getD k 0 := ⟨_, rfl⟩
      rw [← hzz] at hcr hz3 hz4
      clear hzz hc hz
      have hb : (z % 16).toNat < (⟨#[97, 66, 47, 59, 61, 32, 120, 43, 9, 0, 31, 127, 128, 13, 10, 45]⟩ : ByteArray).size := by
        show (z % 16).toNat < 16
        omega
      go_wp2_with (at_builtin; refine wpList_append_fits _ rfl (.tmp 17) (.tmp 25) 23 rfl w.heap.size 5 i0 1 Ybaf.underlying23 hi hz1 w.heap.size k len _ rfl (hown.alloc _) ⟨wr.heap.size, 0, none⟩ 1 1 [.int .u8 (((⟨#[97, 66, 47, 59, 61, 32, 120, 43, 9, 0, 31, 127, 128, 13, 10, 45]⟩ : ByteArray)[(z % 16).toNat]'hb).toNat : Int)] rfl rfl (by intro t u ht; match t, ht with | 0, ht => simp at ht; subst ht; simp [Addr.add]) (by intro u hu; simp at hu; subst hu; rfl) (by omega) ?_; intro w1 hown1 hgrow1)
      go_roundw
      case rel =>
        refine ⟨k + 1, bs ++ [(⟨#[97, 66, 47, 59, 61, 32, 120, 43, 9, 0, 31, 127, 128, 13, 10, 45]⟩ : ByteArray)[(z % 16).toNat]'hb], by omega, by simp [hbl], by go_num, rfl, ?_, ?_⟩
        · simpa [cellsOf] using hown1
        · exact (hnx.alloc hnx.size _).grown hgrow1 (by simp; have := hnx.size; omega) (fun k hk => by cases hk; exact Nat.le_refl _)
      case measure => simp [intOf]; omega
    · obtain rfl : k = len := by omega
      have hcells : ∀ j (hj : j < bs.length), wr.cell? ((⟨w.heap.size, 0, none⟩ : Addr).add j) = some (.int .u8 (bs[j].toNat : Int)) := by
        intro j hj
        have h1 := (hown.cellAt j (by omega)).trans (show (cellsOf bs)[j]? = some (.int .u8 (bs[j].toNat : Int)) by simp [cellsOf, hj])
        unfold Addr.add
        split
        · rename_i h0
          have h0' : j = 0 := by simpa using h0
          subst h0'
          exact h1
        · simpa using h1
      have hcv := run_convert_bytes_back (P := Ybaf.prog) wr 23 9 5 ⟨w.heap.size, 0, none⟩ k bs Ybaf.underlying23 Ybaf.underlying5 Ybaf.underlying9 hcells
      rw [hbl] at hcv
      have hsz : (⟨bs.toArray⟩ : ByteArray).size ≤ maxLen := by
        show bs.toArray.size ≤ maxLen
        unfold maxLen
        simp [hbl]
        omega
      have hFr : F.answers wr.tape := by rw [hnx.tape]; exact hF
      obtain ⟨s, hs⟩ : ∃ s : ByteArray, s = ⟨bs.toArray⟩ := ⟨_, rfl⟩
      rw [← hs] at hcv hsz
      clear hs hcells hz hF
      go_wp2_with (go_at_call 5; refine (Media.check_any F s _ hFr hsz).mono ?_; rintro e w1 ⟨rfl, hbl1⟩)
      go_ret
      exact ⟨rfl, hnx.trans (hbl1.mono hnx.size)⟩

end Go.Proofs.YbulkdfycFmt.Build
