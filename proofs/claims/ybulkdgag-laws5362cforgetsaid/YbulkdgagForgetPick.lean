/- A walk of 'LawS5362CForget'. -/
import Derived.Test.YbulkdgagForgetBase
namespace Go.Proofs.Ybulkdgag.Pm
open Go.RowKit Go.ChangeMaps

set_option maxHeartbeats 2000000 in
set_option maxRecDepth 1000000 in
theorem forget_pick (a0 pick v4 h4 r4 t4 : Int) (nv : Nat) (ao : Option Addr) (len cap : Nat) (X : Nat → Key) (w : World) (h0 : 0 ≤ a0) (h1 : a0 ≤ 255) (hnv : a0 % 8 + 1 = (nv : Int)) (hlen : len ≤ 1024) (hX : In ao len X w)
    (hp0 : 0 ≤ pick) (hp1 : pick ≤ 255) (hev : pick % 2 = 0) (hpos : 0 < len) :
    Calls Yba.prog 3 #[.int .u8 a0, .slice ao len cap, .int .u8 pick, .agg #[.int .u8 v4, .int .i64 h4, .int .i32 r4, .int .u8 t4]] w fun e w' => e = .returned (.bool true) ∧ Below w.heap.size w w' := by
  have hn0 : 1 ≤ nv := by omega
  have hn : nv ≤ 8 := by omega
  have hwfX := hX.wf
  obtain ⟨K, hK⟩ : ∃ K, K = fun i => keyOfStep nv (X i) := ⟨_, rfl⟩
  have hkey : ∀ i, i < len → wfK (K i) ∧ 0 ≤ (K i).1 ∧ (K i).1 < nv := by
    intro i hi
    rw [hK]
    exact wf_key hn0 hn (hwfX i hi)
  obtain ⟨B, hB⟩ : ∃ B, B = w.heap.size + 1 := ⟨_, rfl⟩
  have hbuild := fun o => build_as nv ao len cap X (w.alloc o) B (by simp [hB]) hn0 hn hlen (hX.alloc o) K hK
  obtain ⟨idx, hidx⟩ : ∃ idx : Nat, pick / 2 % (len : Int) = (idx : Int) := ⟨(pick / 2 % (len : Int)).toNat, by have := Int.emod_nonneg (pick / 2) (b := (len : Int)) (by omega); omega⟩
  have hidl : idx < len := by have := Int.emod_lt_of_pos (pick / 2) (b := (len : Int)) (by omega); omega
  have HB : Hid (B = w.heap.size + 1) := hB
  clear hwfX hX hK hB
  go_enter Yba.func3, Yba.ntmps3
  go_wp2_with (go_at_call 5; refine (hbuild _).mono ?_; rintro e w1 ⟨rfl, hP1, hKs1, hb1⟩; have y0 : w1.cell? ⟨B + 4, idx * 4, none⟩ = some (.int .i64 (K idx).1) := hKs1.cell (c := 0) hidl (by omega); have y1 : w1.cell? ⟨B + 4, idx * 4 + 1, none⟩ = some (.int .i64 (K idx).2.1) := hKs1.cell (c := 1) hidl (by omega); have y2 : w1.cell? ⟨B + 4, idx * 4 + 2, none⟩ = some (.int .i32 (K idx).2.2.1) := hKs1.cell (c := 2) hidl (by omega); have y3 : w1.cell? ⟨B + 4, idx * 4 + 3, none⟩ = some (.int .u8 (K idx).2.2.2) := hKs1.cell (c := 3) hidl (by omega); have hklt := hKs1.lt)
  -- THE KEY LIES IN BLOCK kb; THE WORLD IS w2
  obtain ⟨hkw, hk0, hk1⟩ := hkey idx hidl
  obtain ⟨kv, hkv⟩ : ∃ kv, kv = (K idx).1 := ⟨_, rfl⟩
  obtain ⟨kh, hkh⟩ : ∃ kh, kh = (K idx).2.1 := ⟨_, rfl⟩
  obtain ⟨kr, hkr⟩ : ∃ kr, kr = (K idx).2.2.1 := ⟨_, rfl⟩
  obtain ⟨kt, hkt⟩ : ∃ kt, kt = (K idx).2.2.2 := ⟨_, rfl⟩
  rw [← hkv, ← hkh, ← hkr, ← hkt]
  have hkw : wfK (kv, kh, kr, kt) := by rw [hkv, hkh, hkr, hkt]; exact hkw
  rw [← hkv] at hk0 hk1
  have hk2 : (w1.alloc (.cells #[.int .i64 kv, .int .i64 kh, .int .i32 kr, .int .u8 kt] 31)).heap[w1.heap.size]? = some (.cells #[.int .i64 kv, .int .i64 kh, .int .i32 kr, .int .u8 kt] 31 (0, 0)) := heap_alloc_new' _ _
  have hP2 := hP1.alloc (.cells #[.int .i64 kv, .int .i64 kh, .int .i32 kr, .int .u8 kt] 31)
  have ht2 : Touch (fun _ => False) w1 (w1.alloc (.cells #[.int .i64 kv, .int .i64 kh, .int .i32 kr, .int .u8 kt] 31)) := (Touch.refl _ w1).alloc _
  have hKs2 := hKs1.kept ht2 id
  have hb2 : Below w.heap.size w (w1.alloc (.cells #[.int .i64 kv, .int .i64 kh, .int .i32 kr, .int .u8 kt] 31)) := by
    have h3 := HB.out
    have h4 := hb1.size
    refine Below.alloc ?_ (by simp at h4; omega) _
    exact ((Below.refl w.heap.size w).alloc (Nat.le_refl _) _).trans (hb1.mono (by omega))
  generalize (w1.alloc (.cells #[.int .i64 kv, .int .i64 kh, .int .i32 kr, .int .u8 kt] 31)) = w2 at *
  generalize w1.heap.size = kb at *
  have hSl : (sOf K len).length ≤ 1024 := Nat.le_trans (sOf_length K len) hlen
  have hSm : ∀ i, i < len → K i ∈ sOf K len := fun i hi => (mem_sOf K).2 ⟨i, hi, rfl⟩
  have hCm : ∀ i, i < len → i % 2 = 0 → K i ∈ cOf K len := fun i hi he => mem_cOf K ⟨i, hi, he, rfl⟩
  have hBw : w.heap.size < B := by have := HB.out; omega
  generalize sOf K len = S at *
  generalize cOf K len = C at *
  clear hP1 hKs1 hb1 y0 y1 y2 y3 hbuild ht2 hkv hkh hkr hkt HB hnv
  have hP2k := hP2
  obtain ⟨⟨es, clock, hbm, hSk⟩, hag, ⟨ec, cc, hbc, hCk⟩, hpl⟩ := hP2
  have hkb := lt_of_heap hk2
  have q0 : w2.cell? ⟨kb, 0, none⟩ = some (.int .i64 kv) := cell_of_row w2 _ _ _ _ _ hk2
  have q1 : w2.cell? ⟨kb, 1, none⟩ = some (.int .i64 kh) := cell_of_row w2 _ _ _ _ _ hk2
  have q2 : w2.cell? ⟨kb, 2, none⟩ = some (.int .i32 kr) := cell_of_row w2 _ _ _ _ _ hk2
  have q3 : w2.cell? ⟨kb, 3, none⟩ = some (.int .u8 kt) := cell_of_row w2 _ _ _ _ _ hk2
  have p0 := hP2k.c0
  have hPl := hP2k.lt
  have hnd := hSk.nodup
  obtain ⟨u, hlook⟩ := hSk.look_ok (b := B) (clock := clock) Yba.underlying35 zero33 hkw
  obtain ⟨had, hhad⟩ : ∃ had, had = decide ((kv, kh, kr, kt) ∈ S) := ⟨_, rfl⟩
  rw [← hhad] at hlook
  have hl1 : ∀ nq, (Instr.lookup 35 (.map (some B)) (.agg #[.int .i64 kv, .int .i64 kh, .int .i32 kr, .int .u8 kt]) true).run Yba.prog (w2.drewN nq) = .ok (.tuple #[u, .bool had]) (w2.drewN nq) :=
    fun nq => hlook _ hbm
  have HH : Hid (had = decide ((kv, kh, kr, kt) ∈ S)) := hhad
  clear hlook hhad
  go_quiet (fail)
  clear hl1 q0 q1 q2 q3 p0 hbm hag hbc hpl
  generalize hw3 : w2.drewN nq = w3
  have ht3 : Touch (fun _ => False) w2 w3 := by rw [← hw3]; exact (Touch.refl _ w2).drewN nq
  have hP3 := hP2k.kept ht3 (fun _ h => h.elim)
  have hk3 := ht3.heap hk2 id
  have hKs3 := hKs2.kept ht3 id
  have hb3 := hb2.trans (ht3.below (B := w.heap.size) hb2.size (fun b h => h.elim))
  clear hw3 ht3 hP2k hk2 hKs2 hb2 hkb hPl hSk hCk
  have hkbl := lt_of_heap hk3
  have p0 := hP3.c0
  have p1 := hP3.c1
  have p2 := hP3.c2
  have hPl := hP3.lt
  obtain ⟨es3, clock3, hbm3, hS3⟩ := hP3.pend
  have hmk := run_make_ag nv hn
  have hgn : (w3.alloc (.cells (agRow nv []) 3)).heap[w3.heap.size]? = some (.cells (agRow nv []) 3 (0, 0)) := heap_alloc_new' _ _
  have hgb : (w3.alloc (.cells (agRow nv []) 3)).heap[B + 1]? = some (.cells (agRow nv S) 3 (0, 0)) := heap_alloc_old hP3.agn _
  have hcp := run_copy_ag _ 3 _ _ nv S hgn hgb
  obtain ⟨hg4, ht4'⟩ := copied (S := S) hgn
  have ht4 := ((Touch.refl (fun x => x = w3.heap.size) w3).alloc (.cells (agRow nv []) 3)).trans ht4'
  obtain ⟨w4, hw4⟩ : ∃ w4, w4 = (w3.alloc (.cells (agRow nv []) 3)).setRow w3.heap.size (agRow nv S) := ⟨_, rfl⟩
  rw [← hw4] at hcp hg4 ht4
  obtain ⟨g, hge⟩ : ∃ g, g = w3.heap.size := ⟨_, rfl⟩
  rw [← hge] at hg4 ht4
  have hP4 := hP3.kept ht4 (fun b h => by omega)
  have hk4 := ht4.heap hk3 (by omega)
  have hKs4 := hKs3.kept ht4 (by have := hKs3.lt; omega)
  have hb4 := hb3.trans (ht4.below (B := w.heap.size) hb3.size (fun b h => by have := hb3.size; omega))
  have hkg : kb ≠ g := by omega
  have hKg : B + 4 ≠ g := by have := hKs3.lt; omega
  have hBg : B + 3 < g := by omega
  have HG : Hid (g = w3.heap.size) := hge
  clear hw4 hgn hgb ht4 ht4' hKs3 hb3 hk3 hge
  have r2 := hP4.c2
  obtain ⟨ec4, cc4, hbc4, hC4⟩ := hP4.carr
  have q0 : w4.cell? ⟨kb, 0, none⟩ = some (.int .i64 kv) := cell_of_row w4 _ _ _ _ _ hk4
  have q1 : w4.cell? ⟨kb, 1, none⟩ = some (.int .i64 kh) := cell_of_row w4 _ _ _ _ _ hk4
  have q2 : w4.cell? ⟨kb, 2, none⟩ = some (.int .i32 kr) := cell_of_row w4 _ _ _ _ _ hk4
  have q3 : w4.cell? ⟨kb, 3, none⟩ = some (.int .u8 kt) := cell_of_row w4 _ _ _ _ _ hk4
  have hdrop := drop_any B nv S C (kv, kh, kr, kt) w4 hP4 hkw hk0 hk1 hn hSl
  obtain ⟨S', hS'⟩ : ∃ S', S' = delK S (kv, kh, kr, kt) := ⟨_, rfl⟩
  rw [← hS'] at hdrop
  have HS' : Hid (S' = delK S (kv, kh, kr, kt)) := hS'
  clear hS'
  by_cases hin : (kv, kh, kr, kt) ∈ S
  · obtain rfl : had = true := by rw [HH.out]; simpa using hin
    have hL : (S'.length : Int) = (S.length : Int) - 1 := by have := length_delK hnd hin; rw [HS'.out]; omega
    have hcn : ∀ i, cnt S' i = cnt S i - if kv = (i : Int) then 1 else 0 := fun i => by rw [HS'.out]; exact cnt_delK hnd hin i
    have hmem : ∀ x, x ∈ S' ↔ x ∈ S ∧ x ≠ (kv, kh, kr, kt) := fun x => by rw [HS'.out]; exact mem_delK
    have HCN : Hid (∀ i, cnt S' i = cnt S i - if kv = (i : Int) then 1 else 0) := hcn
    have HM : Hid (∀ x, x ∈ S' ↔ x ∈ S ∧ x ≠ (kv, kh, kr, kt)) := hmem
    clear hcn hmem HH
    go_wp2_with (first
      | (at_len; refine wpList_len_keys _ rfl (.tmp 71) 35 rfl 33 Yba.underlying35 B es3 clock3 S _ rfl hbm3 hS3 ?_)
      | (at_len; refine wpList_len_keys _ rfl (.tmp 88) 37 rfl 4 Yba.underlying37 (B + 2) ec4 cc4 C _ rfl hbc4 hC4 ?_)
      | (go_at_call 7; refine hdrop.mono ?_; rintro e w5 ⟨rfl, hP5, ht5⟩; have hg5 := ht5.heap hg4 (by omega); have hk5 := ht5.heap hk4 (by omega); have hKs5 := hKs4.kept ht5 (by omega); have hb5 := hb4.trans (ht5.below (B := w.heap.size) hb4.size (fun b h => by omega)); obtain ⟨es5, clock5, hbm5, hS5⟩ := hP5.pend; have s0 := hP5.c0; have s1 := hP5.c1; clear hdrop)
      | (at_len; refine wpList_len_keys _ rfl (.tmp 97) 35 rfl 33 Yba.underlying35 B es5 clock5 S' _ rfl hbm5 hS5 ?_)
      | fail)
    rw [← HG.out]
    clear hcp hmk HG hL hbm3 hS3 hbc4 hC4 hP3 hP4 hg4 hk4 hKs4 hb4 p0 p1 p2 r2 q0 q1 q2 q3 hPl hkbl ht5
    have q0 : w5.cell? ⟨kb, 0, none⟩ = some (.int .i64 kv) := cell_of_row w5 _ _ _ _ _ hk5
    go_loop [18] (fun c => ∃ m : Nat, m ≤ nv ∧ c = .int .i64 m) (fun c => nv - (intOf c).toNat)
    case atStart => exact ⟨0, Nat.zero_le _, rfl⟩
    case round =>
      obtain ⟨m, hm, rfl⟩ := hrel
      by_cases hmn : m < nv
      · obtain ⟨c, hc⟩ : ∃ c, c = cnt S m := ⟨_, rfl⟩
        have hcb := cnt_bd S m
        rw [← hc] at hcb
        have hcb2 : c ≤ 1024 := by omega
        have hcb1 : 0 ≤ c := hcb.1
        have a1 : w5.cell? ⟨g, m, none⟩ = some (.int .i64 c) := by rw [hc]; exact (cell_of_row w5 _ _ _ _ _ hg5).trans (agRow_at S hmn)
        by_cases e : (m : Int) = kv
        · have a2 : w5.cell? ⟨B + 1, m, none⟩ = some (.int .i64 (c - 1)) := by rw [hP5.ag hmn, HCN.out m, if_pos e.symm, hc]
          have he : ((m : Int) == kv) = true := by simpa using e
          clear hc e hcb
          go_wp2
          go_round
          case rel => exact ⟨m + 1, by omega, by go_num⟩
          case measure => simp [intOf]; omega
        · have a2 : w5.cell? ⟨B + 1, m, none⟩ = some (.int .i64 c) := by rw [hP5.ag hmn, HCN.out m, if_neg (fun h => e h.symm), hc]; simp
          have he : ((m : Int) == kv) = false := by simpa using e
          clear hc e hcb
          go_wp2
          go_round
          case rel => exact ⟨m + 1, by omega, by go_num⟩
          case measure => simp [intOf]; omega
      · obtain rfl : m = nv := by omega
        go_wp2
        clear q0 s0 s1 hbm5 hS5 hg5
        go_loopw [145] (fun c wr => ∃ i : Nat, i ≤ len ∧ c = .int .i64 i ∧ Pool B m S' C wr ∧ Ks (B + 4) len len K wr ∧ wr.heap[kb]? = some (.cells #[.int .i64 kv, .int .i64 kh, .int .i32 kr, .int .u8 kt] 31 (0, 0)) ∧ Below w.heap.size w wr)
          (fun c _ => len - (intOf c).toNat)
        case atStart => exact ⟨0, Nat.zero_le _, rfl, hP5, hKs5, hk5, hb5⟩
        case round =>
          clear hP5 hKs5 hk5 hb5
          obtain ⟨i, hi, rfl, hP6, hKs6, hk6, hb6⟩ := hrel
          by_cases hlt : i < len
          · have hiS := hSm i hlt
            have hxw := (hkey i hlt).1
            have y0 : wr.cell? ⟨B + 4, i * 4, none⟩ = some (.int .i64 (K i).1) := hKs6.cell (c := 0) hlt (by omega)
            have y1 : wr.cell? ⟨B + 4, i * 4 + 1, none⟩ = some (.int .i64 (K i).2.1) := hKs6.cell (c := 1) hlt (by omega)
            have y2 : wr.cell? ⟨B + 4, i * 4 + 2, none⟩ = some (.int .i32 (K i).2.2.1) := hKs6.cell (c := 2) hlt (by omega)
            have y3 : wr.cell? ⟨B + 4, i * 4 + 3, none⟩ = some (.int .u8 (K i).2.2.2) := hKs6.cell (c := 3) hlt (by omega)
            obtain ⟨x, hx⟩ : ∃ x, x = K i := ⟨_, rfl⟩
            rw [← hx] at hiS hxw y0 y1 y2 y3
            clear hx
            obtain ⟨xv, xh, xr, xt⟩ := x
            simp only at y0 y1 y2 y3
            have hPl6 := hP6.lt
            have hkl6 := lt_of_heap hk6
            have z0 : wr.cell? ⟨kb, 0, none⟩ = some (.int .i64 kv) := cell_of_row wr _ _ _ _ _ hk6
            have z1 : wr.cell? ⟨kb, 1, none⟩ = some (.int .i64 kh) := cell_of_row wr _ _ _ _ _ hk6
            have z2 : wr.cell? ⟨kb, 2, none⟩ = some (.int .i32 kr) := cell_of_row wr _ _ _ _ _ hk6
            have z3 : wr.cell? ⟨kb, 3, none⟩ = some (.int .u8 kt) := cell_of_row wr _ _ _ _ _ hk6
            have s0 := hP6.c0
            obtain ⟨es6, clock6, hbm6, hS6⟩ := hP6.pend
            obtain ⟨u6, hlook6⟩ := hS6.look_ok (b := B) (clock := clock6) Yba.underlying35 zero33 hxw
            obtain ⟨ok, hok⟩ : ∃ ok, ok = decide ((xv, xh, xr, xt) ∈ S') := ⟨_, rfl⟩
            rw [← hok] at hlook6
            have hl6 : ∀ nq o, (Instr.lookup 35 (.map (some B)) (.agg #[.int .i64 xv, .int .i64 xh, .int .i32 xr, .int .u8 xt]) true).run Yba.prog ((wr.alloc o).drewN nq) = .ok (.tuple #[u6, .bool ok]) ((wr.alloc o).drewN nq) :=
              fun nq o => hlook6 _ (heap_alloc_old hbm6 o)
            have HOK : Hid (ok = decide ((xv, xh, xr, xt) ∈ S')) := hok
            clear hlook6 hok hbm6
            have hcase : (kv = xv ∧ kh = xh ∧ kr = xr ∧ kt = xt) ∨ (xv == kv) = false ∨ (kv = xv ∧ (xh == kh) = false) ∨ (kv = xv ∧ kh = xh ∧ (xr == kr) = false) ∨ (kv = xv ∧ kh = xh ∧ kr = xr ∧ (xt == kt) = false) := by
              simp only [beq_eq_false_iff_ne]
              omega
            have hfin : ∀ o nq, Pool B m S' C ((wr.alloc o).drewN nq) ∧ Ks (B + 4) len len K ((wr.alloc o).drewN nq) ∧ ((wr.alloc o).drewN nq).heap[kb]? = some (.cells #[.int .i64 kv, .int .i64 kh, .int .i32 kr, .int .u8 kt] 31 (0, 0)) ∧ Below w.heap.size w ((wr.alloc o).drewN nq) := by
              intro o nq
              have ht : Touch (fun _ => False) wr ((wr.alloc o).drewN nq) := ((Touch.refl _ wr).alloc o).drewN nq
              exact ⟨(hP6.alloc o).drewN nq, hKs6.kept ht id, ht.heap hk6 id, hb6.trans (ht.below hb6.size (fun _ h => h.elim))⟩
            clear hP6 hKs6 hb6 hS6 hk6
            rcases hcase with ⟨e1, e2, e3, e4⟩ | he | ⟨e1, he⟩ | ⟨e1, e2, he⟩ | ⟨e1, e2, e3, he⟩
            · subst e1 e2 e3 e4
              have hok : ok = false := by rw [HOK.out, decide_eq_false_iff_not, HM.out]; simp
              subst hok
              go_wp2
              go_quiet (fail)
              go_wp2
              go_roundw
              case rel => exact ⟨i + 1, by omega, by go_num, hfin _ _⟩
              case measure => simp [intOf]; omega
            · have hok : ok = true := by rw [HOK.out, decide_eq_true_iff, HM.out]; exact ⟨hiS, fun e => by simp at he; simp at e; exact he e.1⟩
              subst hok
              go_wp2
              go_quiet (fail)
              go_wp2
              go_roundw
              case rel => exact ⟨i + 1, by omega, by go_num, hfin _ _⟩
              case measure => simp [intOf]; omega
            · subst e1
              have hok : ok = true := by rw [HOK.out, decide_eq_true_iff, HM.out]; exact ⟨hiS, fun e => by simp at he; simp at e; exact he e.1⟩
              subst hok
              go_wp2
              go_quiet (fail)
              go_wp2
              go_roundw
              case rel => exact ⟨i + 1, by omega, by go_num, hfin _ _⟩
              case measure => simp [intOf]; omega
            · subst e1 e2
              have hok : ok = true := by rw [HOK.out, decide_eq_true_iff, HM.out]; exact ⟨hiS, fun e => by simp at he; simp at e; exact he e.1⟩
              subst hok
              go_wp2
              go_quiet (fail)
              go_wp2
              go_roundw
              case rel => exact ⟨i + 1, by omega, by go_num, hfin _ _⟩
              case measure => simp [intOf]; omega
            · subst e1 e2 e3
              have hok : ok = true := by rw [HOK.out, decide_eq_true_iff, HM.out]; exact ⟨hiS, fun e => by simp at he; simp at e; exact he e⟩
              subst hok
              go_wp2
              go_quiet (fail)
              go_wp2
              go_roundw
              case rel => exact ⟨i + 1, by omega, by go_num, hfin _ _⟩
              case measure => simp [intOf]; omega
          · obtain rfl : i = len := by omega
            have s2 := hP6.c2
            obtain ⟨ec6, cc6, hbc6, hC6⟩ := hP6.carr
            go_wp2_with (at_len; refine wpList_len_keys _ rfl (.tmp 167) 37 rfl 4 Yba.underlying37 (B + 2) ec6 cc6 C _ rfl hbc6 hC6 ?_)
            clear s2 hbc6 hC6
            go_loopw [173] (fun c wr => ∃ d : Nat, d ≤ i ∧ c = .int .i64 d ∧ Pool B m S' C wr ∧ Ks (B + 4) i i K wr ∧ Below w.heap.size w wr)
              (fun c _ => i - (intOf c).toNat)
            case atStart => exact ⟨0, Nat.zero_le _, rfl, hP6, hKs6, hb6⟩
            case round =>
              clear hP6 hKs6 hk6 hb6
              obtain ⟨d, hd, rfl, hP7, hKs7, hb7⟩ := hrel
              by_cases hlt7 : d < i
              · have hxw := (hkey d hlt7).1
                have hiC := hCm d hlt7
                have y0 : wr.cell? ⟨B + 4, d * 4, none⟩ = some (.int .i64 (K d).1) := hKs7.cell (c := 0) hlt7 (by omega)
                have y1 : wr.cell? ⟨B + 4, d * 4 + 1, none⟩ = some (.int .i64 (K d).2.1) := hKs7.cell (c := 1) hlt7 (by omega)
                have y2 : wr.cell? ⟨B + 4, d * 4 + 2, none⟩ = some (.int .i32 (K d).2.2.1) := hKs7.cell (c := 2) hlt7 (by omega)
                have y3 : wr.cell? ⟨B + 4, d * 4 + 3, none⟩ = some (.int .u8 (K d).2.2.2) := hKs7.cell (c := 3) hlt7 (by omega)
                obtain ⟨x, hx⟩ : ∃ x, x = K d := ⟨_, rfl⟩
                rw [← hx] at hiC hxw y0 y1 y2 y3
                clear hx
                obtain ⟨xv, xh, xr, xt⟩ := x
                simp only at y0 y1 y2 y3
                have hPl7 := hP7.lt
                have s2 := hP7.c2
                obtain ⟨ec7, cc7, hbc7, hC7⟩ := hP7.carr
                have hfin : ∀ o nq, Pool B m S' C ((wr.alloc o).drewN nq) ∧ Ks (B + 4) i i K ((wr.alloc o).drewN nq) ∧ Below w.heap.size w ((wr.alloc o).drewN nq) := by
                  intro o nq
                  have ht : Touch (fun _ => False) wr ((wr.alloc o).drewN nq) := ((Touch.refl _ wr).alloc o).drewN nq
                  exact ⟨(hP7.alloc o).drewN nq, hKs7.kept ht id, hb7.trans (ht.below hb7.size (fun _ h => h.elim))⟩
                clear hP7 hKs7 hb7
                by_cases hev7 : d % 2 = 0
                · have hin7 := hiC hev7
                  have hl7 : ∀ nq o, (Instr.lookup 37 (.map (some (B + 2))) (.agg #[.int .i64 xv, .int .i64 xh, .int .i32 xr, .int .u8 xt]) false).run Yba.prog ((wr.alloc o).drewN nq) = .ok (.bool true) ((wr.alloc o).drewN nq) := by
                    intro nq o
                    have h := hC7.look_bool (b := B + 2) (clock := cc7) (k := (xv, xh, xr, xt)) Yba.underlying37 zero4 hxw ((wr.alloc o).drewN nq) (heap_alloc_old hbc7 o)
                    rw [decide_eq_true hin7] at h
                    exact h
                  have he7 : (d : Int) % 2 = 0 := by omega
                  clear hbc7 hC7 hiC hin7 hev7
                  go_wp2
                  go_quiet (fail)
                  go_wp2
                  go_roundw
                  case rel => exact ⟨d + 1, by omega, by go_num, hfin _ _⟩
                  case measure => simp [intOf]; omega
                · have he7 : ((d : Int) % 2 == 0) = false := by simp; omega
                  clear hbc7 hC7 hiC hev7
                  go_wp2
                  go_quiet (fail)
                  go_wp2
                  go_roundw
                  case rel => exact ⟨d + 1, by omega, by go_num, hfin _ _⟩
                  case measure => simp [intOf]; omega
              · obtain rfl : d = i := by omega
                go_wp2
                go_ret
                exact ⟨rfl, hb7⟩
  · obtain rfl : had = false := by rw [HH.out]; simpa using hin
    have hL : (S'.length : Int) = (S.length : Int) := by rw [HS'.out, delK_none hin]
    have hcn : ∀ i, cnt S' i = cnt S i := fun i => by rw [HS'.out, delK_none hin]
    have hmem : ∀ x, x ∈ S' ↔ x ∈ S ∧ x ≠ (kv, kh, kr, kt) := fun x => by rw [HS'.out]; exact mem_delK
    have HCN : Hid (∀ i, cnt S' i = cnt S i) := hcn
    have HM : Hid (∀ x, x ∈ S' ↔ x ∈ S ∧ x ≠ (kv, kh, kr, kt)) := hmem
    clear hcn hmem HH
    go_wp2_with (first
      | (at_len; refine wpList_len_keys _ rfl (.tmp 71) 35 rfl 33 Yba.underlying35 B es3 clock3 S _ rfl hbm3 hS3 ?_)
      | (at_len; refine wpList_len_keys _ rfl (.tmp 88) 37 rfl 4 Yba.underlying37 (B + 2) ec4 cc4 C _ rfl hbc4 hC4 ?_)
      | (go_at_call 7; refine hdrop.mono ?_; rintro e w5 ⟨rfl, hP5, ht5⟩; have hg5 := ht5.heap hg4 (by omega); have hk5 := ht5.heap hk4 (by omega); have hKs5 := hKs4.kept ht5 (by omega); have hb5 := hb4.trans (ht5.below (B := w.heap.size) hb4.size (fun b h => by omega)); obtain ⟨es5, clock5, hbm5, hS5⟩ := hP5.pend; have s0 := hP5.c0; have s1 := hP5.c1; clear hdrop)
      | (at_len; refine wpList_len_keys _ rfl (.tmp 105) 35 rfl 33 Yba.underlying35 B es5 clock5 S' _ rfl hbm5 hS5 ?_)
      | fail)
    rw [← HG.out]
    clear hcp hmk HG hL hbm3 hS3 hbc4 hC4 hP3 hP4 hg4 hk4 hKs4 hb4 p0 p1 p2 r2 q0 q1 q2 q3 hPl hkbl ht5
    have q0 : w5.cell? ⟨kb, 0, none⟩ = some (.int .i64 kv) := cell_of_row w5 _ _ _ _ _ hk5
    go_loop [18] (fun c => ∃ m : Nat, m ≤ nv ∧ c = .int .i64 m) (fun c => nv - (intOf c).toNat)
    case atStart => exact ⟨0, Nat.zero_le _, rfl⟩
    case round =>
      obtain ⟨m, hm, rfl⟩ := hrel
      by_cases hmn : m < nv
      · obtain ⟨c, hc⟩ : ∃ c, c = cnt S m := ⟨_, rfl⟩
        have hcb := cnt_bd S m
        rw [← hc] at hcb
        have hcb2 : c ≤ 1024 := by omega
        have hcb1 : 0 ≤ c := hcb.1
        have a1 : w5.cell? ⟨g, m, none⟩ = some (.int .i64 c) := by rw [hc]; exact (cell_of_row w5 _ _ _ _ _ hg5).trans (agRow_at S hmn)
        have a2 : w5.cell? ⟨B + 1, m, none⟩ = some (.int .i64 c) := by rw [hP5.ag hmn, HCN.out m, hc]
        clear hc hcb
        go_wp2
        go_round
        case rel => exact ⟨m + 1, by omega, by go_num⟩
        case measure => simp [intOf]; omega
      · obtain rfl : m = nv := by omega
        go_wp2
        clear q0 s0 s1 hbm5 hS5 hg5
        go_loopw [145] (fun c wr => ∃ i : Nat, i ≤ len ∧ c = .int .i64 i ∧ Pool B m S' C wr ∧ Ks (B + 4) len len K wr ∧ wr.heap[kb]? = some (.cells #[.int .i64 kv, .int .i64 kh, .int .i32 kr, .int .u8 kt] 31 (0, 0)) ∧ Below w.heap.size w wr)
          (fun c _ => len - (intOf c).toNat)
        case atStart => exact ⟨0, Nat.zero_le _, rfl, hP5, hKs5, hk5, hb5⟩
        case round =>
          clear hP5 hKs5 hk5 hb5
          obtain ⟨i, hi, rfl, hP6, hKs6, hk6, hb6⟩ := hrel
          by_cases hlt : i < len
          · have hiS := hSm i hlt
            have hxw := (hkey i hlt).1
            have y0 : wr.cell? ⟨B + 4, i * 4, none⟩ = some (.int .i64 (K i).1) := hKs6.cell (c := 0) hlt (by omega)
            have y1 : wr.cell? ⟨B + 4, i * 4 + 1, none⟩ = some (.int .i64 (K i).2.1) := hKs6.cell (c := 1) hlt (by omega)
            have y2 : wr.cell? ⟨B + 4, i * 4 + 2, none⟩ = some (.int .i32 (K i).2.2.1) := hKs6.cell (c := 2) hlt (by omega)
            have y3 : wr.cell? ⟨B + 4, i * 4 + 3, none⟩ = some (.int .u8 (K i).2.2.2) := hKs6.cell (c := 3) hlt (by omega)
            obtain ⟨x, hx⟩ : ∃ x, x = K i := ⟨_, rfl⟩
            rw [← hx] at hiS hxw y0 y1 y2 y3
            clear hx
            obtain ⟨xv, xh, xr, xt⟩ := x
            simp only at y0 y1 y2 y3
            have hPl6 := hP6.lt
            have hkl6 := lt_of_heap hk6
            have z0 : wr.cell? ⟨kb, 0, none⟩ = some (.int .i64 kv) := cell_of_row wr _ _ _ _ _ hk6
            have z1 : wr.cell? ⟨kb, 1, none⟩ = some (.int .i64 kh) := cell_of_row wr _ _ _ _ _ hk6
            have z2 : wr.cell? ⟨kb, 2, none⟩ = some (.int .i32 kr) := cell_of_row wr _ _ _ _ _ hk6
            have z3 : wr.cell? ⟨kb, 3, none⟩ = some (.int .u8 kt) := cell_of_row wr _ _ _ _ _ hk6
            have s0 := hP6.c0
            obtain ⟨es6, clock6, hbm6, hS6⟩ := hP6.pend
            obtain ⟨u6, hlook6⟩ := hS6.look_ok (b := B) (clock := clock6) Yba.underlying35 zero33 hxw
            obtain ⟨ok, hok⟩ : ∃ ok, ok = decide ((xv, xh, xr, xt) ∈ S') := ⟨_, rfl⟩
            rw [← hok] at hlook6
            have hl6 : ∀ nq o, (Instr.lookup 35 (.map (some B)) (.agg #[.int .i64 xv, .int .i64 xh, .int .i32 xr, .int .u8 xt]) true).run Yba.prog ((wr.alloc o).drewN nq) = .ok (.tuple #[u6, .bool ok]) ((wr.alloc o).drewN nq) :=
              fun nq o => hlook6 _ (heap_alloc_old hbm6 o)
            have HOK : Hid (ok = decide ((xv, xh, xr, xt) ∈ S')) := hok
            clear hlook6 hok hbm6
            have hcase : (kv = xv ∧ kh = xh ∧ kr = xr ∧ kt = xt) ∨ (xv == kv) = false ∨ (kv = xv ∧ (xh == kh) = false) ∨ (kv = xv ∧ kh = xh ∧ (xr == kr) = false) ∨ (kv = xv ∧ kh = xh ∧ kr = xr ∧ (xt == kt) = false) := by
              simp only [beq_eq_false_iff_ne]
              omega
            have hfin : ∀ o nq, Pool B m S' C ((wr.alloc o).drewN nq) ∧ Ks (B + 4) len len K ((wr.alloc o).drewN nq) ∧ ((wr.alloc o).drewN nq).heap[kb]? = some (.cells #[.int .i64 kv, .int .i64 kh, .int .i32 kr, .int .u8 kt] 31 (0, 0)) ∧ Below w.heap.size w ((wr.alloc o).drewN nq) := by
              intro o nq
              have ht : Touch (fun _ => False) wr ((wr.alloc o).drewN nq) := ((Touch.refl _ wr).alloc o).drewN nq
              exact ⟨(hP6.alloc o).drewN nq, hKs6.kept ht id, ht.heap hk6 id, hb6.trans (ht.below hb6.size (fun _ h => h.elim))⟩
            clear hP6 hKs6 hb6 hS6 hk6
            rcases hcase with ⟨e1, e2, e3, e4⟩ | he | ⟨e1, he⟩ | ⟨e1, e2, he⟩ | ⟨e1, e2, e3, he⟩
            · subst e1 e2 e3 e4
              have hok : ok = false := by rw [HOK.out, decide_eq_false_iff_not, HM.out]; simp
              subst hok
              go_wp2
              go_quiet (fail)
              go_wp2
              go_roundw
              case rel => exact ⟨i + 1, by omega, by go_num, hfin _ _⟩
              case measure => simp [intOf]; omega
            · have hok : ok = true := by rw [HOK.out, decide_eq_true_iff, HM.out]; exact ⟨hiS, fun e => by simp at he; simp at e; exact he e.1⟩
              subst hok
              go_wp2
              go_quiet (fail)
              go_wp2
              go_roundw
              case rel => exact ⟨i + 1, by omega, by go_num, hfin _ _⟩
              case measure => simp [intOf]; omega
            · subst e1
              have hok : ok = true := by rw [HOK.out, decide_eq_true_iff, HM.out]; exact ⟨hiS, fun e => by simp at he; simp at e; exact he e.1⟩
              subst hok
              go_wp2
              go_quiet (fail)
              go_wp2
              go_roundw
              case rel => exact ⟨i + 1, by omega, by go_num, hfin _ _⟩
              case measure => simp [intOf]; omega
            · subst e1 e2
              have hok : ok = true := by rw [HOK.out, decide_eq_true_iff, HM.out]; exact ⟨hiS, fun e => by simp at he; simp at e; exact he e.1⟩
              subst hok
              go_wp2
              go_quiet (fail)
              go_wp2
              go_roundw
              case rel => exact ⟨i + 1, by omega, by go_num, hfin _ _⟩
              case measure => simp [intOf]; omega
            · subst e1 e2 e3
              have hok : ok = true := by rw [HOK.out, decide_eq_true_iff, HM.out]; exact ⟨hiS, fun e => by simp at he; simp at e; exact he e⟩
              subst hok
              go_wp2
              go_quiet (fail)
              go_wp2
              go_roundw
              case rel => exact ⟨i + 1, by omega, by go_num, hfin _ _⟩
              case measure => simp [intOf]; omega
          · obtain rfl : i = len := by omega
            have s2 := hP6.c2
            obtain ⟨ec6, cc6, hbc6, hC6⟩ := hP6.carr
            go_wp2_with (at_len; refine wpList_len_keys _ rfl (.tmp 167) 37 rfl 4 Yba.underlying37 (B + 2) ec6 cc6 C _ rfl hbc6 hC6 ?_)
            clear s2 hbc6 hC6
            go_loopw [173] (fun c wr => ∃ d : Nat, d ≤ i ∧ c = .int .i64 d ∧ Pool B m S' C wr ∧ Ks (B + 4) i i K wr ∧ Below w.heap.size w wr)
              (fun c _ => i - (intOf c).toNat)
            case atStart => exact ⟨0, Nat.zero_le _, rfl, hP6, hKs6, hb6⟩
            case round =>
              clear hP6 hKs6 hk6 hb6
              obtain ⟨d, hd, rfl, hP7, hKs7, hb7⟩ := hrel
              by_cases hlt7 : d < i
              · have hxw := (hkey d hlt7).1
                have hiC := hCm d hlt7
                have y0 : wr.cell? ⟨B + 4, d * 4, none⟩ = some (.int .i64 (K d).1) := hKs7.cell (c := 0) hlt7 (by omega)
                have y1 : wr.cell? ⟨B + 4, d * 4 + 1, none⟩ = some (.int .i64 (K d).2.1) := hKs7.cell (c := 1) hlt7 (by omega)
                have y2 : wr.cell? ⟨B + 4, d * 4 + 2, none⟩ = some (.int .i32 (K d).2.2.1) := hKs7.cell (c := 2) hlt7 (by omega)
                have y3 : wr.cell? ⟨B + 4, d * 4 + 3, none⟩ = some (.int .u8 (K d).2.2.2) := hKs7.cell (c := 3) hlt7 (by omega)
                obtain ⟨x, hx⟩ : ∃ x, x = K d := ⟨_, rfl⟩
                rw [← hx] at hiC hxw y0 y1 y2 y3
                clear hx
                obtain ⟨xv, xh, xr, xt⟩ := x
                simp only at y0 y1 y2 y3
                have hPl7 := hP7.lt
                have s2 := hP7.c2
                obtain ⟨ec7, cc7, hbc7, hC7⟩ := hP7.carr
                have hfin : ∀ o nq, Pool B m S' C ((wr.alloc o).drewN nq) ∧ Ks (B + 4) i i K ((wr.alloc o).drewN nq) ∧ Below w.heap.size w ((wr.alloc o).drewN nq) := by
                  intro o nq
                  have ht : Touch (fun _ => False) wr ((wr.alloc o).drewN nq) := ((Touch.refl _ wr).alloc o).drewN nq
                  exact ⟨(hP7.alloc o).drewN nq, hKs7.kept ht id, hb7.trans (ht.below hb7.size (fun _ h => h.elim))⟩
                clear hP7 hKs7 hb7
                by_cases hev7 : d % 2 = 0
                · have hin7 := hiC hev7
                  have hl7 : ∀ nq o, (Instr.lookup 37 (.map (some (B + 2))) (.agg #[.int .i64 xv, .int .i64 xh, .int .i32 xr, .int .u8 xt]) false).run Yba.prog ((wr.alloc o).drewN nq) = .ok (.bool true) ((wr.alloc o).drewN nq) := by
                    intro nq o
                    have h := hC7.look_bool (b := B + 2) (clock := cc7) (k := (xv, xh, xr, xt)) Yba.underlying37 zero4 hxw ((wr.alloc o).drewN nq) (heap_alloc_old hbc7 o)
                    rw [decide_eq_true hin7] at h
                    exact h
                  have he7 : (d : Int) % 2 = 0 := by omega
                  clear hbc7 hC7 hiC hin7 hev7
                  go_wp2
                  go_quiet (fail)
                  go_wp2
                  go_roundw
                  case rel => exact ⟨d + 1, by omega, by go_num, hfin _ _⟩
                  case measure => simp [intOf]; omega
                · have he7 : ((d : Int) % 2 == 0) = false := by simp; omega
                  clear hbc7 hC7 hiC hev7
                  go_wp2
                  go_quiet (fail)
                  go_wp2
                  go_roundw
                  case rel => exact ⟨d + 1, by omega, by go_num, hfin _ _⟩
                  case measure => simp [intOf]; omega
              · obtain rfl : d = i := by omega
                go_wp2
                go_ret
                exact ⟨rfl, hb7⟩

end Go.Proofs.Ybulkdgag.Pm
