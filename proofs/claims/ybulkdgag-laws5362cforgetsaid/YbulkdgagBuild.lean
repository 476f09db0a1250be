/- The walk of 'zzs5362cbuild'. -/
import Derived.Test.YbulkdgagNew
import Derived.Test.YbulkdgagKs
namespace Go.Proofs.Ybulkdgag.Pm
open Go.RowKit Go.ChangeMaps

theorem info31 : (Yba.prog.info? 31).map (fun i => (i.zero, i.size, i.bytes)) = some (some (.agg #[.int .i64 0, .int .i64 0, .int .i32 0, .int .u8 0]), 4, 24) := by kernel_rfl

/-- What is read of the steps that came in: step i is V i, H i, R i, T i, in range. -/
structure In (ao : Option Addr) (len : Nat) (X : Nat → Key) (w : World) : Prop where
  at_ : ∀ i, i < len → ∃ b off, ao = some ⟨b, off, none⟩ ∧ b < w.heap.size ∧
    w.cell? ⟨b, off + i * 4, none⟩ = some (.int .u8 (X i).1) ∧ w.cell? ⟨b, off + i * 4 + 1, none⟩ = some (.int .i64 (X i).2.1) ∧
    w.cell? ⟨b, off + i * 4 + 2, none⟩ = some (.int .i32 (X i).2.2.1) ∧ w.cell? ⟨b, off + i * 4 + 3, none⟩ = some (.int .u8 (X i).2.2.2)
  wf : ∀ i, i < len → (Lit.int .u8 (X i).1).wf = true ∧ (Lit.int .i64 (X i).2.1).wf = true ∧ (Lit.int .i32 (X i).2.2.1).wf = true ∧ (Lit.int .u8 (X i).2.2.2).wf = true

/-- The key of step i. -/
def keyOfStep (nv : Nat) (x : Key) : Key := (x.1 % (nv : Int), x.2)

theorem u8_bd {v : Int} (h : (Lit.int .u8 v).wf = true) : 0 ≤ v ∧ v ≤ 255 := by
  simpa [Lit.wf, IntKind.min, IntKind.max, IntKind.bits, IntKind.signed] using h

theorem wf_key {nv : Nat} {x : Key} (h0 : 1 ≤ nv) (h1 : nv ≤ 8) (h : (Lit.int .u8 x.1).wf = true ∧ (Lit.int .i64 x.2.1).wf = true ∧ (Lit.int .i32 x.2.2.1).wf = true ∧ (Lit.int .u8 x.2.2.2).wf = true) :
    wfK (keyOfStep nv x) ∧ 0 ≤ (keyOfStep nv x).1 ∧ (keyOfStep nv x).1 < nv := by
  have h2 : 0 ≤ x.1 % (nv : Int) := Int.emod_nonneg _ (by omega)
  have h3 : x.1 % (nv : Int) < nv := Int.emod_lt_of_pos _ (by omega)
  refine ⟨⟨WalkArith.wf_i64 (by show -9223372036854775808 ≤ x.1 % (nv : Int) ∧ x.1 % (nv : Int) ≤ 9223372036854775807; omega), h.2⟩, h2, h3⟩

theorem key_as (v h r t nv kv : Int) (w : World) (h0 : 0 ≤ v) (h1 : v ≤ 255) (n0 : 1 ≤ nv) (n1 : nv ≤ 8) (e : v % nv = kv) :
    Calls Yba.prog 6 #[.agg #[.int .u8 v, .int .i64 h, .int .i32 r, .int .u8 t], .int .i64 nv] w fun e w' =>
      e = .returned (.agg #[.int .i64 kv, .int .i64 h, .int .i32 r, .int .u8 t]) ∧ Below w.heap.size w w' := by
  subst e
  exact key_any v h r t nv w h0 h1 n0 n1

theorem new4 (w : World) (o : Obj) (a b c d : Value) (ty : TypeId) : ∀ j u, [a, b, c, d][j]? = some u → ((w.alloc o).alloc (.cells #[a, b, c, d] ty)).cell? ((⟨w.heap.size + 1, 0, none⟩ : Addr).add j) = some u := by
  intro j u h
  have e : (w.alloc o).heap.size = w.heap.size + 1 := World.size_alloc _ _
  rw [Addr.add_lit, ← e, Nat.zero_add]
  refine (cell_of_row _ _ _ _ _ _ (heap_alloc_new' (w.alloc o) _)).trans ?_
  simpa using h

theorem Ks.lt {g len j : Nat} {K : Nat → Key} {w : World} (h : Ks g len j K w) : g < w.heap.size := by
  obtain ⟨cur, h1, _⟩ := h.row
  exact lt_of_heap h1

theorem after_append {B nv j len : Nat} {S C : List Key} {K : Nat → Key} {v kv kh kr kt : Int} {w wr w3 w4 : World} (hKlt : B + 4 < wr.heap.size) (hP : Pool B nv S C wr) (hbw : Below B w wr)
    (hK : K j = (kv, kh, kr, kt)) (ht3 : Touch (fun _ => False) (wr.alloc (.cells #[.int .u8 v, .int .i64 kh, .int .i32 kr, .int .u8 kt] 24)) w3)
    (hown4 : w4.ownsRow (B + 4) 31 4 (.slice (some ⟨B + 4, 0, none⟩) (j + 1) len) (j + 1) (kscells K j ++ [.int .i64 kv, .int .i64 kh, .int .i32 kr, .int .u8 kt]))
    (hgrow4 : ((w3.alloc (.cells #[.int .i64 kv, .int .i64 kh, .int .i32 kr, .int .u8 kt] 31)).alloc (.cells #[.int .i64 kv, .int .i64 kh, .int .i32 kr, .int .u8 kt] 31)).grownBy w4 (some (B + 4))) :
    Pool B nv S C w4 ∧ Ks (B + 4) len (j + 1) K w4 ∧ w4.heap[w3.heap.size]? = some (.cells #[.int .i64 kv, .int .i64 kh, .int .i32 kr, .int .u8 kt] 31 (0, 0)) ∧ B + 4 < w3.heap.size ∧ Below B w w4 := by
  have hs : wr.heap.size + 1 ≤ w3.heap.size := by have := ht3.size; simpa using this
  have ht4 : Touch (fun b => b = B + 4) wr w4 := ((((((Touch.refl _ wr).alloc _).trans (ht3.mono (fun _ h => h.elim))).alloc _).alloc _).grown hgrow4 (fun k h => by cases h; rfl))
  refine ⟨hP.kept ht4 (fun b h => by omega), ?_, ?_, by omega, hbw.trans (ht4.below (by omega) (fun b h => by omega))⟩
  · have e : kscells K (j + 1) = kscells K j ++ [.int .i64 kv, .int .i64 kh, .int .i32 kr, .int .u8 kt] := by rw [kscells, hK]; rfl
    unfold Ks
    rw [e]
    exact hown4
  · have h1 : ((w3.alloc (.cells #[.int .i64 kv, .int .i64 kh, .int .i32 kr, .int .u8 kt] 31)).alloc (.cells #[.int .i64 kv, .int .i64 kh, .int .i32 kr, .int .u8 kt] 31)).heap[w3.heap.size]? = some (.cells #[.int .i64 kv, .int .i64 kh, .int .i32 kr, .int .u8 kt] 31 (0, 0)) := heap_alloc_old (heap_alloc_new' w3 _) _
    exact (hgrow4.block _ (lt_of_heap h1) (fun e => by have := Option.some.inj e; omega)).trans h1

/-- Behind the store of a new piece: the counts are not yet raised. -/
theorem mid_facts {B nv : Nat} {S C : List Key} {w5 : World} (hP : Pool B nv S C w5) (o : Obj) (es' : Array MapEntry) (clock' : Nat) :
    (setBlock (w5.alloc o).drew B (.map es' clock')).heap[B]? = some (.map es' clock') ∧ (setBlock (w5.alloc o).drew B (.map es' clock')).heap[B + 1]? = some (.cells (agRow nv S) 3 (0, 0)) ∧
    (∃ ec cc, (setBlock (w5.alloc o).drew B (.map es' clock')).heap[B + 2]? = some (.map ec cc) ∧ Keys ec C (· = .bool true)) ∧
    (setBlock (w5.alloc o).drew B (.map es' clock')).heap[B + 3]? = some (.cells #[.map (some B), .slice (some ⟨B + 1, 0, none⟩) nv nv, .map (some (B + 2))] 39 (0, 0)) ∧ Touch (fun b => b = B) w5 (setBlock (w5.alloc o).drew B (.map es' clock')) := by
  obtain ⟨⟨es, clock, hb, hS⟩, hag, ⟨ec, cc, hb2, hC⟩, hp⟩ := hP
  have hbo : (w5.alloc o).drew.heap[B]? = some (.map es clock) := heap_alloc_old hb o
  have ht : Touch (fun b => b = B) w5 (setBlock (w5.alloc o).drew B (.map es' clock')) := (((Touch.refl (fun b => b = B) w5).alloc o).drew).setBlock hbo rfl _
  exact ⟨heap_setBlock_same hbo _, ht.heap hag (by omega), ⟨ec, cc, ht.heap hb2 (by omega), hC⟩, ht.heap hp (by omega), ht⟩

theorem add_done {B nv : Nat} {S C : List Key} {k : Key} {w6 : World} {es' : Array MapEntry} {clock' : Nat} {c : Int} (h0 : w6.heap[B]? = some (.map es' clock')) (h1 : w6.heap[B + 1]? = some (.cells (agRow nv S) 3 (0, 0)))
    (h2 : ∃ ec cc, w6.heap[B + 2]? = some (.map ec cc) ∧ Keys ec C (· = .bool true)) (h3 : w6.heap[B + 3]? = some (.cells #[.map (some B), .slice (some ⟨B + 1, 0, none⟩) nv nv, .map (some (B + 2))] 39 (0, 0)))
    (hS' : Keys es' (putK S k) (fun _ => True)) (hin : k ∉ S) (hk0 : 0 ≤ k.1) (hc : c = cnt S k.1.toNat) : Pool B nv (putK S k) C (w6.setCell ⟨B + 1, k.1.toNat, none⟩ (.int .i64 (c + 1))).drew := by
  obtain ⟨ec, cc, h2, hC⟩ := h2
  refine ⟨⟨es', clock', ?_, hS'⟩, ?_, ⟨ec, cc, ?_, hC⟩, ?_⟩
  · exact (Below.heap_setCell _ _ _ _ (by show B ≠ B + 1; omega)).trans h0
  · refine (heap_setCell_same w6 (B + 1) k.1.toNat _ 3 _ h1).trans ?_
    have e : putK S k = S ++ [k] := by simp [putK, hin]
    rw [e, agRow_of (S' := S ++ [k])]
    · rw [cnt_snoc, hc, if_pos (by omega)]
    · intro i hi
      rw [cnt_snoc, if_neg hi]
      omega
  · exact (Below.heap_setCell _ _ _ _ (by show B + 2 ≠ B + 1; omega)).trans h2
  · exact (Below.heap_setCell _ _ _ _ (by show B + 3 ≠ B + 1; omega)).trans h3

/-- Behind the store of a carried step. -/
theorem carry_done {B nv : Nat} {S C C' : List Key} {w7 : World} {ec es' : Array MapEntry} {cc clock' : Nat} (hP : Pool B nv S C w7) (hb : w7.heap[B + 2]? = some (.map ec cc)) (hC' : Keys es' C' (· = .bool true)) :
    Pool B nv S C' (setBlock w7.drew (B + 2) (.map es' clock')) ∧ Touch (fun b => b = B + 2) w7 (setBlock w7.drew (B + 2) (.map es' clock')) := by
  have hbo : w7.drew.heap[B + 2]? = some (.map ec cc) := hb
  have ht : Touch (fun b => b = B + 2) w7 (setBlock w7.drew (B + 2) (.map es' clock')) := ((Touch.refl (fun b => b = B + 2) w7).drew).setBlock hbo rfl _
  obtain ⟨⟨es, clock, hb0, hS⟩, hag, _, hp⟩ := hP
  exact ⟨⟨⟨es, clock, ht.heap hb0 (by omega), hS⟩, ht.heap hag (by omega), ⟨es', clock', heap_setBlock_same hbo _, hC'⟩, ht.heap hp (by omega)⟩, ht⟩

set_option maxHeartbeats 4000000 in
theorem build_any (nv : Nat) (ao : Option Addr) (len cap : Nat) (X : Nat → Key) (w : World) (hn0 : 1 ≤ nv) (hn : nv ≤ 8) (hlen : len ≤ 1024) (hX : In ao len X w) :
    Calls Yba.prog 5 #[.int .i64 (nv : Int), .slice ao len cap] w fun e w' => e = .returned (.tuple #[.pointer (some ⟨w.heap.size + 3, 0, none⟩), .slice (some ⟨w.heap.size + 4, 0, none⟩) len len]) ∧
      Pool w.heap.size nv (sOf (fun i => keyOfStep nv (X i)) len) (cOf (fun i => keyOfStep nv (X i)) len) w' ∧ Ks (w.heap.size + 4) len len (fun i => keyOfStep nv (X i)) w' ∧ Below w.heap.size w w' := by
  obtain ⟨i0, hi, hz0, hz1, hz2⟩ := info_parts info31
  obtain ⟨K, hK⟩ : ∃ K, K = fun i => keyOfStep nv (X i) := ⟨_, rfl⟩
  rw [← hK]
  go_enter Yba.func5, Yba.ntmps5
  go_wp2_with (first
    | (go_at_call 8; refine (new_any nv _ hn).mono ?_; rintro e w1 ⟨rfl, hP1, hs1, hb1⟩)
    | (at_make; refine wpList_make_own _ rfl _ _ 26 rfl (w.heap.size + 4) 31 i0 _ 4 Yba.underlying26 hi hz0 hz1 _ _ _ len rfl rfl (by omega) (by rw [hz2]; omega) (by unfold maxLen; omega) (by omega) ?_; intro w2 hown2 hgrow2))
  rw [hs1] at hown2
  have ht2 : Touch (fun b => w.heap.size + 3 < b) w1 w2 := (Touch.refl _ _).grown hgrow2 (fun k h => by cases h)
  have hP2 := hP1.kept ht2 (fun b h => h)
  have hb2 := hb1.grown hgrow2 hb1.size (fun k h => by cases h)
  clear ht2 hP1 hb1 hgrow2
  go_loopw [7, 20] (fun v c wr => ∃ j : Nat, j ≤ len ∧ c = .int .i64 j ∧ v = .slice (some ⟨w.heap.size + 4, 0, none⟩) j len ∧ Pool w.heap.size nv (sOf K j) (cOf K j) wr ∧ Ks (w.heap.size + 4) len j K wr ∧ Below w.heap.size w wr)
    (fun _ c _ => len - (intOf c).toNat)
  case atStart => exact ⟨0, Nat.zero_le _, rfl, rfl, hP2, hown2, hb2⟩
  case round =>
    obtain ⟨j, hj, rfl, rfl, hP, hKs, hbw⟩ := hrel
    by_cases hlt : j < len
    · obtain ⟨b, off, rfl, hb, x1, x2, x3, x4⟩ := hX.at_ j hlt
      have hwf := hX.wf j hlt
      have hbd := u8_bd hwf.1
      obtain ⟨hkw, hk0, hk1⟩ := wf_key hn0 hn hwf
      have HKj : Hid (K j = keyOfStep nv (X j)) := by rw [hK]; rfl
      have e1 : (X j).1 % (nv : Int) = (K j).1 := by rw [hK]; rfl
      have e2 : (X j).2 = (K j).2 := by rw [hK]; rfl
      rw [← HKj.out] at hkw hk0 hk1
      rw [e2] at x2 x3 x4
      have y1 := (hbw.cell (p := ⟨b, off + j * 4, none⟩) hb).trans x1
      have y2 := (hbw.cell (p := ⟨b, off + j * 4 + 1, none⟩) hb).trans x2
      have y3 := (hbw.cell (p := ⟨b, off + j * 4 + 2, none⟩) hb).trans x3
      have y4 := (hbw.cell (p := ⟨b, off + j * 4 + 3, none⟩) hb).trans x4
      obtain ⟨v, hv⟩ : ∃ v, v = (X j).1 := ⟨_, rfl⟩
      obtain ⟨kv, hkv⟩ : ∃ kv, kv = (K j).1 := ⟨_, rfl⟩
      obtain ⟨kh, hkh⟩ : ∃ kh, kh = (K j).2.1 := ⟨_, rfl⟩
      obtain ⟨kr, hkr⟩ : ∃ kr, kr = (K j).2.2.1 := ⟨_, rfl⟩
      obtain ⟨kt, hkt⟩ : ∃ kt, kt = (K j).2.2.2 := ⟨_, rfl⟩
      have HKK : Hid (K j = (kv, kh, kr, kt)) := by rw [hkv, hkh, hkr, hkt]; rfl
      rw [← hv] at y1 e1 hbd
      rw [← hkh] at y2
      rw [← hkr] at y3
      rw [← hkt] at y4
      rw [← hkv] at e1 hk0 hk1
      have E1 : Hid (v % (nv : Int) = kv) := e1
      have hPlt := hP.lt
      clear x1 x2 x3 x4 hown2 hP2 hb2 hX hwf e1 e2 HKj hv hkv hkh hkr hkt
      have hKlt : w.heap.size + 4 < wr.heap.size := hKs.lt
      go_wp2_with (first
        | (go_at_call 6; refine (key_as v kh kr kt nv kv _ hbd.1 hbd.2 (by omega) (by omega) E1.out).mono ?_; rintro e w3 ⟨rfl, hbl3⟩; have ht3 := Touch.of_below (T := fun _ => False) hbl3)
        | (at_builtin; refine wpList_append_fits _ rfl (.tmp 28) (.tmp 30) 26 rfl (w.heap.size + 4) 31 i0 4 Yba.underlying26 hi hz1 (w.heap.size + 4) j len _ rfl (hKs.kept ((((Touch.refl _ wr).alloc _).trans ht3).alloc _ |>.alloc _) id) ⟨w3.heap.size + 1, 0, none⟩ 1 1 [.int .i64 kv, .int .i64 kh, .int .i32 kr, .int .u8 kt] rfl rfl (new4 w3 _ _ _ _ _ _) (by intro u hu; simp at hu; rcases hu with rfl | rfl | rfl | rfl <;> rfl) (by omega) ?_; intro w4 hown4 hgrow4))
      -- BEHIND THE APPEND: THE WORLD IS w4, THE KEY LIES IN BLOCK kb
      obtain ⟨hP4, hKs4, hkb4, hlt4, hb4⟩ := after_append (v := v) hKlt hP hbw HKK.out ht3 hown4 hgrow4
      obtain ⟨kb, hkbe⟩ : ∃ kb, kb = w3.heap.size := ⟨_, rfl⟩
      rw [← hkbe] at hkb4 hlt4
      rw [← hkbe]
      rw [HKK.out] at hkw
      clear hkbe hown4 hgrow4 ht3 hbl3 hKs hP hbw y1 y2 y3 y4 hPlt hKlt hb
      have hkb5 := lt_of_heap hkb4
      have q0 : w4.cell? ⟨kb, 0, none⟩ = some (.int .i64 kv) := cell_of_row w4 _ _ _ _ _ hkb4
      have q1 : w4.cell? ⟨kb, 1, none⟩ = some (.int .i64 kh) := cell_of_row w4 _ _ _ _ _ hkb4
      have q2 : w4.cell? ⟨kb, 2, none⟩ = some (.int .i32 kr) := cell_of_row w4 _ _ _ _ _ hkb4
      have q3 : w4.cell? ⟨kb, 3, none⟩ = some (.int .u8 kt) := cell_of_row w4 _ _ _ _ _ hkb4
      have hPl4 := hP4
      obtain ⟨⟨es, clock, hbm, hS⟩, hag, ⟨ec, cc, hbc, hC⟩, hpl⟩ := hP4
      have hB3 := hPl4.lt
      have p0 := hPl4.c0
      have p1 := hPl4.c1
      have p2 := hPl4.c2
      obtain ⟨u, hlook⟩ := hS.look_ok (b := w.heap.size) (clock := clock) Yba.underlying35 zero33 hkw
      by_cases hin : (kv, kh, kr, kt) ∈ sOf K j
      · have hin' : decide ((kv, kh, kr, kt) ∈ sOf K j) = true := by simpa using hin
        rw [hin'] at hlook
        have hl1 : ∀ nq, (Instr.lookup 35 (.map (some w.heap.size)) (.agg #[.int .i64 kv, .int .i64 kh, .int .i32 kr, .int .u8 kt]) true).run Yba.prog (w4.drewN nq) = .ok (.tuple #[u, .bool true]) (w4.drewN nq) :=
          fun nq => hlook _ hbm
        clear hlook hin'
        go_quiet (fail)
        clear hl1 q0 q1 q2 q3 p0 p1 p2
        generalize hw7 : w4.drewN nq = w7
        have ht7 : Touch (fun _ => False) w4 w7 := by rw [← hw7]; exact (Touch.refl _ w4).drewN nq
        have hP7 : Pool w.heap.size nv (sOf K (j + 1)) (cOf K j) w7 := by
          have e : sOf K (j + 1) = sOf K j := by rw [sOf, HKK.out]; simp [putK, hin]
          rw [e]
          exact hPl4.kept ht7 (fun _ h => h.elim)
        have hk7 := ht7.heap hkb4 id
        have hKs7 := hKs4.kept ht7 id
        have hb7 := hb4.trans (ht7.below (B := w.heap.size) hb4.size (fun b h => h.elim))
        clear hw7 ht7 hPl4 hKs4 hb4 hkb4 hbm hag hbc hpl hB3 hkb5
        -- THE TAIL: the world is w7; S' the pending steps behind this round
        have hk7l := lt_of_heap hk7
        have t0 : w7.cell? ⟨kb, 0, none⟩ = some (.int .i64 kv) := cell_of_row w7 _ _ _ _ _ hk7
        have t1 : w7.cell? ⟨kb, 1, none⟩ = some (.int .i64 kh) := cell_of_row w7 _ _ _ _ _ hk7
        have t2 : w7.cell? ⟨kb, 2, none⟩ = some (.int .i32 kr) := cell_of_row w7 _ _ _ _ _ hk7
        have t3 : w7.cell? ⟨kb, 3, none⟩ = some (.int .u8 kt) := cell_of_row w7 _ _ _ _ _ hk7
        have r2 := hP7.c2
        have hPl7 := hP7.lt
        obtain ⟨ec7, cc7, hbc7, hC7⟩ := hP7.carr
        by_cases hev : j % 2 = 0
        · have hev1 : (j : Int) % 2 = 0 := by omega
          obtain ⟨es7, clock7, hS7, hst7⟩ := hC7.store (b := w.heap.size + 2) (clock := cc7) (v := .bool true) Yba.underlying37 hkw rfl
          have hst8 : (Instr.mapUpdate 37 (.map (some (w.heap.size + 2))) (.agg #[.int .i64 kv, .int .i64 kh, .int .i32 kr, .int .u8 kt]) (.bool true)).run Yba.prog w7.drew = .ok () (setBlock w7.drew (w.heap.size + 2) (.map es7 clock7)) := hst7 _ hbc7
          obtain ⟨hP8, ht8⟩ := carry_done (clock' := clock7) hP7 hbc7 hS7
          have hc8 : cOf K (j + 1) = putK (cOf K j) (kv, kh, kr, kt) := by rw [cOf, if_pos hev, HKK.out]
          have hKs8 := hKs7.kept ht8 (by omega)
          have hb8 := hb7.trans (ht8.below (B := w.heap.size) hb7.size (fun b h => by omega))
          have HC8 : Hid (cOf K (j + 1) = putK (cOf K j) (kv, kh, kr, kt)) := hc8
          clear hst7 hc8
          go_wp2
          go_region
          go_wp2
          go_roundw
          case rel => exact ⟨j + 1, by omega, by go_num, rfl, by rw [HC8.out]; exact hP8, hKs8, hb8⟩
          case measure => simp [intOf]; omega
        · have hev1 : ((j : Int) % 2 == 0) = false := by simp; omega
          have HC8 : Hid (cOf K (j + 1) = cOf K j) := by show _ = _; rw [cOf, if_neg hev]
          clear hev
          go_wp2
          go_roundw
          case rel => exact ⟨j + 1, by omega, by go_num, rfl, by rw [HC8.out]; exact hP7, hKs7, hb7⟩
          case measure => simp [intOf]; omega
      · have hin' : decide ((kv, kh, kr, kt) ∈ sOf K j) = false := by simpa using hin
        rw [hin'] at hlook
        have hl1 : ∀ nq, (Instr.lookup 35 (.map (some w.heap.size)) (.agg #[.int .i64 kv, .int .i64 kh, .int .i32 kr, .int .u8 kt]) true).run Yba.prog (w4.drewN nq) = .ok (.tuple #[u, .bool false]) (w4.drewN nq) :=
          fun nq => hlook _ hbm
        clear hlook hin'
        go_quiet (fail)
        go_wp2
        clear hl1 q0 q1 q2 q3 p0 p1 p2
        generalize hw5 : w4.drewN nq = w5
        have e5 : w5.heap = w4.heap := by rw [← hw5]; rfl
        have ht5 : Touch (fun _ => False) w4 w5 := by rw [← hw5]; exact (Touch.refl _ w4).drewN nq
        clear hw5
        have hP5 := hPl4.kept ht5 (fun _ h => h.elim)
        have hk5 := ht5.heap hkb4 id
        rw [← e5] at hbm hag hbc hpl hkb5 hB3
        clear e5
        have q0 : w5.cell? ⟨kb, 0, none⟩ = some (.int .i64 kv) := cell_of_row w5 _ _ _ _ _ hk5
        have q1 : w5.cell? ⟨kb, 1, none⟩ = some (.int .i64 kh) := cell_of_row w5 _ _ _ _ _ hk5
        have q2 : w5.cell? ⟨kb, 2, none⟩ = some (.int .i32 kr) := cell_of_row w5 _ _ _ _ _ hk5
        have q3 : w5.cell? ⟨kb, 3, none⟩ = some (.int .u8 kt) := cell_of_row w5 _ _ _ _ _ hk5
        have p0 := hP5.c0
        obtain ⟨es', clock', hS', hst⟩ := hS.store (b := w.heap.size) (clock := clock) (v := .pointer (some ⟨w5.heap.size, 0, none⟩)) Yba.underlying35 hkw trivial
        have hst1 : ∀ o, (Instr.mapUpdate 35 (.map (some w.heap.size)) (.agg #[.int .i64 kv, .int .i64 kh, .int .i32 kr, .int .u8 kt]) (.pointer (some ⟨w5.heap.size, 0, none⟩))).run Yba.prog (w5.alloc o).drew = .ok () (setBlock (w5.alloc o).drew w.heap.size (.map es' clock')) :=
          fun o => hst _ (heap_alloc_old hbm o)
        clear hst
        go_region
        go_wp2
        -- BEHIND THE STORE: w6
        obtain ⟨m0, m1, m2, m3, ht6⟩ := mid_facts hP5 (.cells #[.pointer none, .pointer none] 47) es' clock'
        generalize hw6 : setBlock _ w.heap.size (.map es' clock') = w6
        rw [hw6] at m0 m1 m2 m3 ht6
        have hk6 := ht6.heap hk5 (by omega)
        have ht46 := (ht5.mono (T' := fun b => b = w.heap.size) (fun _ h => h.elim)).trans ht6
        have hKs6 := hKs4.kept ht46 (by omega)
        have hb6 := hb4.trans (ht46.below (B := w.heap.size) hb4.size (fun b h => by omega))
        clear hw6 hst1 q0 q1 q2 q3 p0
        have hk6l := lt_of_heap hk6
        have q0 : w6.cell? ⟨kb, 0, none⟩ = some (.int .i64 kv) := cell_of_row w6 _ _ _ _ _ hk6
        have p1 : w6.cell? ⟨w.heap.size + 3, 1, none⟩ = some (.slice (some ⟨w.heap.size + 1, 0, none⟩) nv nv) := cell_of_row w6 _ _ _ _ _ m3
        obtain ⟨c, hc⟩ : ∃ c, c = cnt (sOf K j) kv.toNat := ⟨_, rfl⟩
        have hcb := cnt_bd (sOf K j) kv.toNat
        rw [← hc] at hcb
        have hsl := sOf_length K j
        obtain ⟨hcb0, hcb1⟩ := hcb
        have hcb2 : c ≤ 1024 := by omega
        have hkn : kv.toNat < nv := by omega
        have da : w6.cell? ⟨w.heap.size + 1, kv.toNat, none⟩ = some (.int .i64 c) := by rw [hc]; exact (cell_of_row w6 _ _ _ _ _ m1).trans (agRow_at _ hkn)
        have df : w6.frozen? ⟨w.heap.size + 1, kv.toNat, none⟩ = false := frozen_of_row w6 _ _ _ _ m1
        have hP7 := add_done (k := (kv, kh, kr, kt)) m0 m1 m2 m3 hS' hin hk0 hc
        have ht7 : Touch (fun b => b = w.heap.size + 1) w6 (w6.setCell ⟨w.heap.size + 1, kv.toNat, none⟩ (.int .i64 (c + 1))).drew := ((Touch.refl (fun b => b = w.heap.size + 1) w6).setCell rfl _).drew
        clear hc hcb1 hsl hbm hag hbc hpl hB3 m0 m1 m2 m3
        go_region
        clear da df q0 p1
        generalize hw7 : (w6.setCell ⟨w.heap.size + 1, kv.toNat, none⟩ (.int .i64 (c + 1))).drew = w7
        have hP7 : Pool w.heap.size nv (sOf K (j + 1)) (cOf K j) w7 := by
          rw [← hw7, sOf, HKK.out]
          exact hP7
        rw [hw7] at ht7
        have hk7 := ht7.heap hk6 (by omega)
        have hKs7 := hKs6.kept ht7 (by omega)
        have hb7 := hb6.trans (ht7.below (B := w.heap.size) hb6.size (fun b h => by omega))
        clear hw7 ht7 ht46 ht6 ht5 hP5 hPl4 hk5 hk6 hk6l hKs4 hKs6 hb4 hb6 hkb4
        -- THE TAIL: the world is w7; S' the pending steps behind this round
        have hk7l := lt_of_heap hk7
        have t0 : w7.cell? ⟨kb, 0, none⟩ = some (.int .i64 kv) := cell_of_row w7 _ _ _ _ _ hk7
        have t1 : w7.cell? ⟨kb, 1, none⟩ = some (.int .i64 kh) := cell_of_row w7 _ _ _ _ _ hk7
        have t2 : w7.cell? ⟨kb, 2, none⟩ = some (.int .i32 kr) := cell_of_row w7 _ _ _ _ _ hk7
        have t3 : w7.cell? ⟨kb, 3, none⟩ = some (.int .u8 kt) := cell_of_row w7 _ _ _ _ _ hk7
        have r2 := hP7.c2
        have hPl7 := hP7.lt
        obtain ⟨ec7, cc7, hbc7, hC7⟩ := hP7.carr
        by_cases hev : j % 2 = 0
        · have hev1 : (j : Int) % 2 = 0 := by omega
          obtain ⟨es7, clock7, hS7, hst7⟩ := hC7.store (b := w.heap.size + 2) (clock := cc7) (v := .bool true) Yba.underlying37 hkw rfl
          have hst8 : (Instr.mapUpdate 37 (.map (some (w.heap.size + 2))) (.agg #[.int .i64 kv, .int .i64 kh, .int .i32 kr, .int .u8 kt]) (.bool true)).run Yba.prog w7.drew = .ok () (setBlock w7.drew (w.heap.size + 2) (.map es7 clock7)) := hst7 _ hbc7
          obtain ⟨hP8, ht8⟩ := carry_done (clock' := clock7) hP7 hbc7 hS7
          have hc8 : cOf K (j + 1) = putK (cOf K j) (kv, kh, kr, kt) := by rw [cOf, if_pos hev, HKK.out]
          have hKs8 := hKs7.kept ht8 (by omega)
          have hb8 := hb7.trans (ht8.below (B := w.heap.size) hb7.size (fun b h => by omega))
          have HC8 : Hid (cOf K (j + 1) = putK (cOf K j) (kv, kh, kr, kt)) := hc8
          clear hst7 hc8
          go_wp2
          go_region
          go_wp2
          go_roundw
          case rel => exact ⟨j + 1, by omega, by go_num, rfl, by rw [HC8.out]; exact hP8, hKs8, hb8⟩
          case measure => simp [intOf]; omega
        · have hev1 : ((j : Int) % 2 == 0) = false := by simp; omega
          have HC8 : Hid (cOf K (j + 1) = cOf K j) := by show _ = _; rw [cOf, if_neg hev]
          clear hev
          go_wp2
          go_roundw
          case rel => exact ⟨j + 1, by omega, by go_num, rfl, by rw [HC8.out]; exact hP7, hKs7, hb7⟩
          case measure => simp [intOf]; omega
    · obtain rfl : j = len := by omega
      go_wp2
      go_ret2
      exact ⟨rfl, hP, hKs, hbw⟩

end Go.Proofs.Ybulkdgag.Pm
