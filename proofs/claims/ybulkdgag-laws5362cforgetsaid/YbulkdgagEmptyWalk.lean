/- The walk of 'LawS5362CEmpty'. -/
import Derived.Test.YbulkdgagBuild
import Derived.Test.YbulkdgagDrop
namespace Go.Proofs.Ybulkdgag.Pm
open Go.RowKit Go.ChangeMaps

/-- The pending steps after the first i keys were dropped. -/
def dOf (S : List Key) (K : Nat → Key) : Nat → List Key
  | 0 => S
  | i + 1 => delK (dOf S K i) (K i)

theorem mem_dOf {S : List Key} {K : Nat → Key} {x : Key} : ∀ {i}, x ∈ dOf S K i → x ∈ S ∧ ∀ c, c < i → x ≠ K c
  | 0, h => ⟨h, fun c hc => by omega⟩
  | i + 1, h => by
    obtain ⟨h1, h2⟩ := mem_delK.1 h
    obtain ⟨h3, h4⟩ := mem_dOf h1
    refine ⟨h3, fun c hc => ?_⟩
    by_cases e : c = i
    · subst e; exact h2
    · exact h4 c (by omega)

theorem length_delK_le (S : List Key) (k : Key) : (delK S k).length ≤ S.length := List.length_filter_le _ _

theorem dOf_length (S : List Key) (K : Nat → Key) : ∀ i, (dOf S K i).length ≤ S.length
  | 0 => Nat.le_refl _
  | i + 1 => Nat.le_trans (length_delK_le _ _) (dOf_length S K i)

/-- Every step dropped in turn: nothing is left. -/
theorem dOf_all (K : Nat → Key) (len : Nat) : dOf (sOf K len) K len = [] := by
  apply List.eq_nil_iff_forall_not_mem.2
  intro x hx
  obtain ⟨h1, h2⟩ := mem_dOf hx
  obtain ⟨i, hi, e⟩ := (mem_sOf K).1 h1
  exact h2 i hi e

/-- 'len(m)' at the operation. -/
theorem wpList_len_keys (w : World) {ops : Array Oper} {rest : List Oper} {o : Oper} {a : Act} {Q : Exit → Act → World → Prop} (hg : o.guard = none) (m : Operand) (t : TypeId) (hop : o.op = Op.call { callee := Callee.builtin Builtin.len, args := #[m], argTypes := #[t] })
    (e : TypeId) (ht : Yba.prog.underlying t = some (.map 31 e)) (b : Nat) (es : Array MapEntry) (clock : Nat) (S : List Key) (pv : Value → Prop) (hm : a.eval m = .map (some b)) (hb : w.heap[b]? = some (.map es clock)) (hS : Keys es S pv)
    (hK : wpList Yba.prog ops Q rest (a.put o.dst (.int .i64 (S.length : Int))) w) :
    wpList Yba.prog ops Q (o :: rest) a w := by
  refine wpList_plain hg fun K' hK' => ?_
  unfold Oper.wp
  simp [execOp, hop, resolve, invoke, builtin, hm, hS.len ht o.type w hb, Result.andThen]
  exact hK' _ _ hK

theorem empty_long (a0 : Int) (ao : Option Addr) (len cap : Nat) (w : World) (h : (1024 : Int) < (len : Int)) :
    Calls Yba.prog 4 #[.int .u8 a0, .slice ao len cap] w fun e w' => e = .returned (.bool true) ∧ Below w.heap.size w w' := by
  go_enter Yba.func4, Yba.ntmps4
  go_wp2
  go_ret
  exact ⟨rfl, Below.refl _ _⟩

set_option maxHeartbeats 2000000 in
theorem empty_short (a0 : Int) (nv : Nat) (ao : Option Addr) (len cap : Nat) (X : Nat → Key) (w : World) (h0 : 0 ≤ a0) (h1 : a0 ≤ 255) (hnv : a0 % 8 + 1 = (nv : Int)) (hlen : len ≤ 1024) (hX : In ao len X w) :
    Calls Yba.prog 4 #[.int .u8 a0, .slice ao len cap] w fun e w' => e = .returned (.bool true) ∧ Below w.heap.size w w' := by
  have hn0 : 1 ≤ nv := by omega
  have hn : nv ≤ 8 := by omega
  have hwfX := hX.wf
  obtain ⟨K, hK⟩ : ∃ K, K = fun i => keyOfStep nv (X i) := ⟨_, rfl⟩
  have hkey : ∀ i, i < len → wfK (K i) ∧ 0 ≤ (K i).1 ∧ (K i).1 < nv := by
    intro i hi
    rw [hK]
    exact wf_key hn0 hn (hwfX i hi)
  have hbuild := build_any nv ao len cap X w hn0 hn hlen hX
  rw [← hK] at hbuild
  clear hwfX hX hK
  go_enter Yba.func4, Yba.ntmps4
  go_wp2_with (go_at_call 5; refine hbuild.mono ?_; rintro e w1 ⟨rfl, hP1, hKs1, hb1⟩)
  clear hbuild
  go_loopw [26] (fun c wr => ∃ i : Nat, i ≤ len ∧ c = .int .i64 i ∧ Pool w.heap.size nv (dOf (sOf K len) K i) (cOf K len) wr ∧ Ks (w.heap.size + 4) len len K wr ∧ Below w.heap.size w wr)
    (fun c _ => len - (intOf c).toNat)
  case atStart => exact ⟨0, Nat.zero_le _, rfl, hP1, hKs1, hb1⟩
  case round =>
    obtain ⟨i, hi, rfl, hP, hKs, hbw⟩ := hrel
    by_cases hlt : i < len
    · obtain ⟨hkw, hk0, hk1⟩ := hkey i hlt
      have y0 : wr.cell? ⟨w.heap.size + 4, i * 4, none⟩ = some (.int .i64 (K i).1) := hKs.cell (c := 0) hlt (by omega)
      have y1 : wr.cell? ⟨w.heap.size + 4, i * 4 + 1, none⟩ = some (.int .i64 (K i).2.1) := hKs.cell (c := 1) hlt (by omega)
      have y2 : wr.cell? ⟨w.heap.size + 4, i * 4 + 2, none⟩ = some (.int .i32 (K i).2.2.1) := hKs.cell (c := 2) hlt (by omega)
      have y3 : wr.cell? ⟨w.heap.size + 4, i * 4 + 3, none⟩ = some (.int .u8 (K i).2.2.2) := hKs.cell (c := 3) hlt (by omega)
      have hsl := Nat.le_trans (dOf_length (sOf K len) K i) (sOf_length K len)
      clear hP1 hKs1 hb1
      go_wp2_with (go_at_call 7; refine (drop_any w.heap.size nv _ _ (K i) _ (hP.alloc _) hkw hk0 hk1 hn (by omega)).mono ?_; rintro e w2 ⟨rfl, hP2, ht2⟩)
      have ht2' := ((Touch.refl (fun b => b = w.heap.size ∨ b = w.heap.size + 1) wr).alloc _).trans ht2
      go_roundw
      case rel => exact ⟨i + 1, by omega, by go_num, hP2, hKs.kept ht2' (by omega), hbw.trans (ht2'.below hbw.size (fun b h => by omega))⟩
      case measure => simp [intOf]; omega
    · obtain rfl : i = len := by omega
      have hd := dOf_all K i
      rw [hd] at hP
      clear hP1 hKs1 hb1 hd hkey
      have p0 := hP.c0
      have p1 := hP.c1
      obtain ⟨es, clock, hbm, hS⟩ := hP.pend
      go_wp2_with (at_len; refine wpList_len_keys _ rfl _ 35 rfl 33 Yba.underlying35 w.heap.size es clock [] _ rfl hbm hS ?_)
      go_loop [10] (fun c => ∃ m : Nat, m ≤ nv ∧ c = .int .i64 m) (fun c => nv - (intOf c).toNat)
      case atStart => exact ⟨0, Nat.zero_le _, rfl⟩
      case round =>
        obtain ⟨m, hm, rfl⟩ := hrel
        by_cases hmn : m < nv
        · have hag : wr.cell? ⟨w.heap.size + 1, m, none⟩ = some (.int .i64 0) := hP.ag hmn
          go_wp2
          go_round
          case rel => exact ⟨m + 1, by omega, by go_num⟩
          case measure => simp [intOf]; omega
        · obtain rfl : m = nv := by omega
          go_wp2
          go_ret
          exact ⟨rfl, hbw⟩

end Go.Proofs.Ybulkdgag.Pm
