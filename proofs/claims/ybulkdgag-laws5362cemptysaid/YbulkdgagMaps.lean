/- A map keyed by the pool's struct key, told by the list of its keys, in the order in which they came: look-up, store, delete, length. -/
import Derived.Test.YbulkdgagRows
import Derived.WalkKit
import Derived.Maps.OwnSet
import Derived.DeepKeys4
namespace Go.Proofs.Ybulkdgag.Pm
open Go.ChangeMaps Go.MapKept
open Go.Maps (Keyed)

/-- validator, height, round, type -/
abbrev Key := Int × Int × Int × Int
def val (k : Key) : Value := .agg #[.int .i64 k.1, .int .i64 k.2.1, .int .i32 k.2.2.1, .int .u8 k.2.2.2]
def wfK (k : Key) : Prop := (Lit.int .i64 k.1).wf = true ∧ (Lit.int .i64 k.2.1).wf = true ∧ (Lit.int .i32 k.2.2.1).wf = true ∧ (Lit.int .u8 k.2.2.2).wf = true

theorem val_inj {a b : Key} (h : val a = val b) : a = b := by
  obtain ⟨a1, a2, a3, a4⟩ := a
  obtain ⟨b1, b2, b3, b4⟩ := b
  simp [val] at h
  obtain ⟨rfl, rfl, rfl, rfl⟩ := h
  rfl

theorem laidOut : laidOutB Yba.prog = true := by kernel_rfl
theorem row31 : (31 : TypeId) < Yba.prog.types.size := of_decide_eq_true (by kernel_rfl)
theorem wide31 : (match Yba.prog.underlying 31 with | some (.array _ _) | some (.struct _) => true | _ => false) = true := by kernel_rfl
theorem law : Keyed Yba.prog 31 := Keyed.of_law (deep_law_laid laidOut (m := 2) (by omega) row31 (by kernel_rfl) wide31)
theorem keyType31 : Yba.prog.keyType 31 = true := by kernel_rfl
theorem cells31 : Yba.prog.cellsOf 31 = 4 := by kernel_rfl
theorem cells2 : Yba.prog.cellsOf 2 = 1 := by kernel_rfl
theorem cells3 : Yba.prog.cellsOf 3 = 1 := by kernel_rfl
theorem cells21 : Yba.prog.cellsOf 21 = 1 := by kernel_rfl
theorem cells29 : Yba.prog.cellsOf 29 = 1 := by kernel_rfl
theorem size72 : Yba.prog.types.size = 72 := by kernel_rfl

theorem lits_int (d : Nat) {t : TypeId} {q : IntKind} (hu : Yba.prog.underlying t = some (.int q)) {n : Int} (hw : (Lit.int q n).wf = true) : Yba.prog.keyLits (d + 1) t [.int q n] = some [.int q n] := by
  unfold Program.keyLits
  rw [hu]
  simp [hw]

theorem lits_key (d : Nat) {k : Key} (h : wfK k) : ∃ ls, Yba.prog.keyLits (d + 2) 31 [.int .i64 k.1, .int .i64 k.2.1, .int .i32 k.2.2.1, .int .u8 k.2.2.2] = some ls := by
  obtain ⟨h1, h2, h3, h4⟩ := h
  have e1 := lits_int d Yba.underlying3 h1
  have e2 := lits_int d Yba.underlying2 h2
  have e3 := lits_int d Yba.underlying21 h3
  have e4 := lits_int d Yba.underlying29 h4
  unfold Program.keyLits
  rw [Yba.underlying31]
  simp [cells31, cells2, cells3, cells21, cells29, e1, e2, e3, e4]

theorem keyOf_val {k : Key} (h : wfK k) : ∃ l, keyOf Yba.prog 31 (val k) = some l := by
  obtain ⟨ls, hl⟩ := lits_key (Yba.prog.types.size - 1) h
  rw [size72] at hl
  simp [keyOf, Yba.underlying31, keyType31, Value.formed, val, cells31, Value.cells, hl]

/-- THE ENTRIES BEAR THE KEYS S, IN THEIR ORDER; each element meets pv. -/
structure Keys (es : Array MapEntry) (S : List Key) (pv : Value → Prop) : Prop where
  keys : es.toList.map (·.key) = S.map val
  nodup : S.Nodup
  wf : ∀ x ∈ S, wfK x
  el : ∀ e ∈ es.toList, pv e.val

variable {es : Array MapEntry} {S : List Key} {pv : Value → Prop} {k : Key}

theorem Keys.entries (h : Keys es S pv) : ∀ e ∈ es.toList, ∃ l, keyOf Yba.prog 31 e.key = some l := by
  intro e he
  have : e.key ∈ S.map val := by rw [← h.keys]; exact List.mem_map_of_mem he
  obtain ⟨x, hx, hxe⟩ := List.mem_map.1 this
  rw [← hxe]
  exact keyOf_val (h.wf x hx)

theorem Keys.at {j : Nat} (h : Keys es S pv) : (es.toList[j]?).map (·.key) = (S[j]?).map val := by
  rw [← List.getElem?_map, h.keys, List.getElem?_map]

theorem Keys.size (h : Keys es S pv) : es.size = S.length := by
  have := congrArg List.length h.keys
  simpa using this

theorem Keys.find_no (h : Keys es S pv) (hk : wfK k) (hn : k ∉ S) (w : World) : (Instr.findKey 31 (val k) es.toList).run Yba.prog w = .ok none w := by
  obtain ⟨l, hl⟩ := keyOf_val hk
  rcases law.find w hl es.toList h.entries with ⟨h1, _⟩ | ⟨j, e, _, h2, h3⟩
  · exact h1
  · exfalso
    have := h.at (j := j)
    rw [h2] at this
    simp only [Option.map_some, h3] at this
    obtain ⟨x, hx, hxv⟩ := Option.map_eq_some_iff.1 this.symm
    exact hn (val_inj hxv ▸ List.mem_of_getElem? hx)

theorem Keys.find_yes (h : Keys es S pv) (hk : wfK k) (hin : k ∈ S) : ∃ j e, es.toList[j]? = some e ∧ e.key = val k ∧ S[j]? = some k ∧ ∀ w, (Instr.findKey 31 (val k) es.toList).run Yba.prog w = .ok (some (j, e.val)) w := by
  obtain ⟨l, hl⟩ := keyOf_val hk
  obtain ⟨j, hj⟩ := List.getElem?_of_mem hin
  have hat := h.at (j := j)
  rw [hj] at hat
  obtain ⟨e, he, hev⟩ := Option.map_eq_some_iff.1 hat
  refine ⟨j, e, he, hev, hj, fun w => ?_⟩
  rcases law.find w hl es.toList h.entries with ⟨_, h2⟩ | ⟨j', e', h1, h2, h3⟩
  · exact absurd hev (h2 e (List.mem_of_getElem? he))
  · have hat' := h.at (j := j')
    rw [h2] at hat'
    simp only [Option.map_some, h3] at hat'
    obtain ⟨x, hx, hxv⟩ := Option.map_eq_some_iff.1 hat'.symm
    have hxk := val_inj hxv
    subst hxk
    obtain ⟨l1, g1⟩ := List.getElem?_eq_some_iff.1 hj
    obtain ⟨l2, g2⟩ := List.getElem?_eq_some_iff.1 hx
    have hjj : j = j' := (List.getElem_inj h.nodup).1 (g1.trans g2.symm)
    subst hjj
    rw [he] at h2
    cases h2
    exact h1

variable {t e : TypeId} {b clock : Nat}

/-- 'v, ok := m[k]': ok says whether k is among the keys. -/
theorem Keys.look_ok (h : Keys es S pv) (ht : Yba.prog.underlying t = some (.map 31 e)) {z : Value} (hz : ∀ w, (zeroValue e).run Yba.prog w = .ok z w) (hk : wfK k) :
    ∃ v, ∀ w : World, w.heap[b]? = some (.map es clock) → (Instr.lookup t (.map (some b)) (val k) true).run Yba.prog w = .ok (.tuple #[v, .bool (decide (k ∈ S))]) w := by
  obtain ⟨l, hl⟩ := keyOf_val hk
  by_cases hin : k ∈ S
  · obtain ⟨j, e0, _, _, _, hf⟩ := h.find_yes hk hin
    exact ⟨e0.val, fun w hb => by simp [Instr.lookup, run_underlying ht, MapKept.run_getObj_map hb, law.check w _ hl, hf, Result.andThen, hin]⟩
  · exact ⟨z, fun w hb => by simp [Instr.lookup, run_underlying ht, MapKept.run_getObj_map hb, law.check w _ hl, h.find_no hk hin, hz, Result.andThen, hin]⟩

/-- 'm[k]' of a map of true's. -/
theorem Keys.look_bool (h : Keys es S (· = .bool true)) (ht : Yba.prog.underlying t = some (.map 31 e)) (hz : ∀ w, (zeroValue e).run Yba.prog w = .ok (.bool false) w) (hk : wfK k) (w : World) (hb : w.heap[b]? = some (.map es clock)) :
    (Instr.lookup t (.map (some b)) (val k) false).run Yba.prog w = .ok (.bool (decide (k ∈ S))) w := by
  obtain ⟨l, hl⟩ := keyOf_val hk
  by_cases hin : k ∈ S
  · obtain ⟨j, e0, he0, _, _, hf⟩ := h.find_yes hk hin
    have hv : e0.val = .bool true := h.el e0 (List.mem_of_getElem? he0)
    simp [Instr.lookup, run_underlying ht, MapKept.run_getObj_map hb, law.check w _ hl, hf, Result.andThen, hin, hv]
  · simp [Instr.lookup, run_underlying ht, MapKept.run_getObj_map hb, law.check w _ hl, h.find_no hk hin, hz, Result.andThen, hin]

/-- The keys behind 'm[k] = v'. -/
def putK (S : List Key) (k : Key) : List Key := if k ∈ S then S else S ++ [k]
/-- .. behind 'delete(m, k)'. -/
def delK (S : List Key) (k : Key) : List Key := S.filter fun x => !decide (x = k)

theorem putK_nodup (h : S.Nodup) (k : Key) : (putK S k).Nodup := by
  unfold putK
  split
  · exact h
  · rename_i hn
    rw [List.nodup_append]
    refine ⟨h, by simp, fun a ha b hb => ?_⟩
    rw [List.mem_singleton] at hb
    subst hb
    exact fun e => hn (e ▸ ha)

theorem mem_putK {x : Key} : x ∈ putK S k ↔ x ∈ S ∨ x = k := by
  unfold putK
  split
  · rename_i h
    exact ⟨Or.inl, fun h' => h'.elim id (fun e => e ▸ h)⟩
  · simp

theorem mem_delK {x : Key} : x ∈ delK S k ↔ x ∈ S ∧ x ≠ k := by
  unfold delK
  simp

/-- 'm[k] = v'. -/
theorem Keys.store (h : Keys es S pv) (ht : Yba.prog.underlying t = some (.map 31 e)) (hk : wfK k) {v : Value} (hv : pv v) :
    ∃ es' clock', Keys es' (putK S k) pv ∧ ∀ w : World, w.heap[b]? = some (.map es clock) → (Instr.mapUpdate t (.map (some b)) (val k) v).run Yba.prog w = .ok () (setBlock w b (.map es' clock')) := by
  obtain ⟨l, hl⟩ := keyOf_val hk
  by_cases hin : k ∈ S
  · obtain ⟨j, e0, he0, hek, hj, hf⟩ := h.find_yes hk hin
    have hes : es[j]? = some e0 := by simpa using he0
    have hput : putK S k = S := by simp [putK, hin]
    have hlist : (es.modify j (fun e' => { e' with key := val k, val := v })).toList = es.toList.set j { e0 with key := val k, val := v } := by rw [Array.toList_modify, modify_eq_set _ _ _ _ he0]
    refine ⟨es.modify j (fun e' => { e' with key := val k, val := v }), clock, ⟨?_, by rw [hput]; exact h.nodup, by rw [hput]; exact h.wf, ?_⟩, fun w hb => ?_⟩
    · rw [hlist, List.map_set, hput, h.keys]
      apply List.ext_getElem?
      intro i
      rw [List.getElem?_set]
      split
      · rename_i hij
        subst hij
        have hlt := (List.getElem?_eq_some_iff.1 hj).1
        rw [if_pos (by simpa using hlt), List.getElem?_map, hj]
        rfl
      · rfl
    · intro x hx
      rw [hlist] at hx
      rcases List.mem_or_eq_of_mem_set hx with hx | rfl
      · exact h.el x hx
      · exact hv
    · simp [Instr.mapUpdate, run_underlying ht, MapKept.run_getObj_map hb, law.check w false hl, hf, hes, hek, law.stays w hl, MapKept.run_setObj_map _ hb, Result.andThen, setBlock]
  · have hput : putK S k = S ++ [k] := by simp [putK, hin]
    refine ⟨es.push ⟨val k, v, clock⟩, clock + 1, ⟨?_, putK_nodup h.nodup k, ?_, ?_⟩, fun w hb => ?_⟩
    · rw [hput]
      simp [h.keys]
    · intro x hx
      rcases mem_putK.1 hx with hx | rfl
      · exact h.wf x hx
      · exact hk
    · intro x hx
      simp only [Array.toList_push, List.mem_append, List.mem_singleton] at hx
      rcases hx with hx | rfl
      · exact h.el x hx
      · exact hv
    · simp [Instr.mapUpdate, run_underlying ht, MapKept.run_getObj_map hb, law.check w false hl, h.find_no hk hin, MapKept.run_setObj_map _ hb, Result.andThen, setBlock]

theorem apart_of_nodup {k : Key} : ∀ {S : List Key}, S.Nodup → S.Pairwise (fun a b => ¬ (decide (a = k) = true ∧ decide (b = k) = true))
  | [], _ => List.Pairwise.nil
  | x :: r, h => by
    obtain ⟨h1, h2⟩ := List.nodup_cons.1 h
    refine List.pairwise_cons.2 ⟨fun b hb hc => ?_, apart_of_nodup h2⟩
    simp only [decide_eq_true_eq] at hc
    rw [hc.1] at h1
    rw [hc.2] at hb
    exact h1 hb

/-- 'delete(m, k)', the key being there. -/
theorem Keys.drop (h : Keys es S pv) (ht : Yba.prog.underlying t = some (.map 31 e)) (hk : wfK k) (hin : k ∈ S) (ty : TypeId) :
    ∃ es', Keys es' (delK S k) pv ∧ ∀ w : World, w.heap[b]? = some (.map es clock) → (Builtin.delete_ #[t, 31] ty #[.map (some b), val k]).run Yba.prog w = .ok (.tuple #[]) (setBlock w b (.map es' clock)) := by
  obtain ⟨l, hl⟩ := keyOf_val hk
  obtain ⟨j, e0, he0, hek, hj, hf⟩ := h.find_yes hk hin
  have hjl : j < es.toList.length := (List.getElem?_eq_some_iff.1 he0).1
  have hjs : j < es.size := by simpa using hjl
  have hsub : (es.eraseIdxIfInBounds j).toList = es.toList.eraseIdx j := by
    unfold Array.eraseIdxIfInBounds
    rw [dif_pos hjs]
    simp
  have hdel : delK S k = S.eraseIdx j := by
    unfold delK
    refine filter_eq_eraseIdx (fun x => decide (x = k)) S j k hj (by simp) ?_
    exact apart_of_nodup h.nodup
  refine ⟨es.eraseIdxIfInBounds j, ⟨?_, ?_, ?_, ?_⟩, fun w hb => ?_⟩
  · rw [hsub, map_eraseIdx, h.keys, hdel, map_eraseIdx]
  · exact h.nodup.filter _
  · exact fun x hx => h.wf x (mem_delK.1 hx).1
  · intro x hx
    rw [hsub] at hx
    exact h.el x ((List.eraseIdx_sublist _ _).subset hx)
  · simp [Builtin.delete_, run_underlying ht, MapKept.run_getObj_map hb, law.check w _ hl, hf, MapKept.run_setObj_map _ hb, Result.andThen, setBlock]

/-- 'len(m)'. -/
theorem Keys.len (h : Keys es S pv) (ht : Yba.prog.underlying t = some (.map 31 e)) (ty : TypeId) (w : World) (hb : w.heap[b]? = some (.map es clock)) :
    (Builtin.len_ #[t] ty #[.map (some b)]).run Yba.prog w = .ok (.int .i64 (S.length : Int)) w := by
  simp [Builtin.len_, run_underlying ht, MapKept.run_getObj_map hb, goInt, Result.andThen, h.size]

theorem keys_none (pv : Value → Prop) : Keys #[] [] pv := ⟨rfl, List.nodup_nil, fun _ h => (by cases h), fun _ h => (by simp at h)⟩

end Go.Proofs.Ybulkdgag.Pm
