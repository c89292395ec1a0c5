/-
  A map keyed by 64-bit integers, told by the list of its entries: 'MapIs w b l'. Plain laws, no program text.
-/
import Derived.Test.YbulkazwuBase
import Derived.ChangeMaps5
namespace Go.Bs
open Go.RowKit
open Go.ChangeMaps (setBlock heap_setBlock_same heap_setBlock_other)

section
variable {α : Type}

/-- The first entry at k: its place and its element. -/
def find (k : Int) : List (Int × α) → Option (Nat × α)
  | [] => none
  | p :: l => if p.1 = k then some (0, p.2) else (find k l).map (fun r => (r.1 + 1, r.2))
def get (k : Int) : List (Int × α) → Option α
  | [] => none
  | p :: l => if p.1 = k then some p.2 else get k l
def put (k : Int) (v : α) : List (Int × α) → List (Int × α)
  | [] => [(k, v)]
  | p :: l => if p.1 = k then (k, v) :: l else p :: put k v l
def del (k : Int) : List (Int × α) → List (Int × α)
  | [] => []
  | p :: l => if p.1 = k then l else p :: del k l

theorem find_get (k : Int) (l : List (Int × α)) : (find k l).map (·.2) = get k l := by
  induction l with
  | nil => rfl
  | cons p l ih =>
    unfold find get
    split
    · rfl
    · rw [← ih]; cases find k l <;> rfl

theorem find_none_put (k : Int) (v : α) (l : List (Int × α)) (h : find k l = none) : put k v l = l ++ [(k, v)] := by
  induction l with
  | nil => rfl
  | cons p l ih =>
    unfold find at h
    unfold put
    split at h
    · cases h
    · rename_i hp
      rw [if_neg hp, ih (by cases hf : find k l <;> simp_all), List.cons_append]

theorem find_none_del (k : Int) (l : List (Int × α)) (h : find k l = none) : del k l = l := by
  induction l with
  | nil => rfl
  | cons p l ih =>
    unfold find at h
    unfold del
    split at h
    · cases h
    · rename_i hp
      rw [if_neg hp, ih (by cases hf : find k l <;> simp_all)]

theorem find_some_put (k : Int) (v : α) (l : List (Int × α)) (i : Nat) (u : α) (h : find k l = some (i, u)) : put k v l = l.modify i (fun _ => (k, v)) := by
  induction l generalizing i with
  | nil => cases h
  | cons p l ih =>
    unfold find at h
    unfold put
    split at h
    · rename_i hp
      rw [if_pos hp]
      cases h
      simp
    · rename_i hp
      rw [if_neg hp]
      cases hf : find k l with
      | none => rw [hf] at h; cases h
      | some r =>
        rw [hf] at h
        simp at h
        obtain ⟨rfl, rfl⟩ := h
        rw [ih r.1 hf]
        simp

theorem find_some_del (k : Int) (l : List (Int × α)) (i : Nat) (u : α) (h : find k l = some (i, u)) : del k l = l.eraseIdx i := by
  induction l generalizing i with
  | nil => cases h
  | cons p l ih =>
    unfold find at h
    unfold del
    split at h
    · rename_i hp
      rw [if_pos hp]
      cases h
      simp
    · rename_i hp
      rw [if_neg hp]
      cases hf : find k l with
      | none => rw [hf] at h; cases h
      | some r =>
        rw [hf] at h
        simp at h
        obtain ⟨rfl, rfl⟩ := h
        rw [ih r.1 hf]
        simp

theorem find_key (k : Int) (l : List (Int × α)) (i : Nat) (u : α) (h : find k l = some (i, u)) : l[i]? = some (k, u) := by
  induction l generalizing i with
  | nil => cases h
  | cons p l ih =>
    unfold find at h
    split at h
    · rename_i hp
      cases h
      simp [← hp]
    · cases hf : find k l with
      | none => rw [hf] at h; cases h
      | some r =>
        rw [hf] at h
        simp at h
        obtain ⟨rfl, rfl⟩ := h
        simpa using ih r.1 hf
end

def kv (e : MapEntry) : Value × Value := (e.key, e.val)
def ikv (p : Int × Value) : Value × Value := (.int .i64 p.1, p.2)

/-- BLOCK b IS A MAP WHOSE ENTRIES ARE l. -/
def MapIs (w : World) (b : Nat) (l : List (Int × Value)) : Prop := ∃ es ck, w.heap[b]? = some (.map es ck) ∧ es.toList.map kv = l.map ikv

theorem findNow_kv (q : IntKind) (k : Int) (l : List (Int × Value)) (es : List MapEntry) (h : es.map kv = l.map ikv) (i : Nat) :
    Instr.findNow (.int q) (.int .i64 k) es i = some ((find k l).map (fun r => (i + r.1, r.2))) := by
  induction l generalizing es i with
  | nil =>
    obtain rfl : es = [] := by simpa using h
    rfl
  | cons p l ih =>
    cases es with
    | nil => simp at h
    | cons e es =>
      simp only [List.map_cons, List.cons.injEq] at h
      obtain ⟨h1, h2⟩ := h
      simp only [kv, ikv, Prod.mk.injEq] at h1
      unfold Instr.findNow find
      rw [h1.1]
      by_cases hp : p.1 = k
      · simp [Instr.sameNow, hp, h1.2]
      · have hp' : (k == p.1) = false := by simpa using fun e => hp e.symm
        simp only [Instr.sameNow, if_true, hp', if_neg hp]
        rw [ih es h2 (i + 1)]
        cases find k l with
        | none => rfl
        | some r => simp; omega

section
variable {P : Program} {w : World} {b : Nat} {l : List (Int × Value)} {t kt et : TypeId} {q : IntKind}

theorem run_checkKey (hk : P.underlying kt = some (.int q)) (e : Bool) (v : Value) (w : World) : (Instr.checkKey e 10000 kt v).run P w = .ok () w := by
  show (Instr.checkKey e (9999 + 1) kt v).run P w = _
  unfold Instr.checkKey
  simp [run_underlying hk]

theorem MapIs.find (h : MapIs w b l) (hk : P.underlying kt = some (.int q)) (k : Int) : ∃ es ck, w.heap[b]? = some (.map es ck) ∧ es.toList.map kv = l.map ikv ∧ (Instr.findKey kt (.int .i64 k) es.toList).run P w = .ok ((Bs.find k l)) w := by
  obtain ⟨es, ck, hh, he⟩ := h
  refine ⟨es, ck, hh, he, ?_⟩
  unfold Instr.findKey
  have := findNow_kv q k l es.toList he 0
  simp [run_underlying hk, this]

theorem MapIs.look (h : MapIs w b l) (ht : P.underlying t = some (.map kt et)) (hk : P.underlying kt = some (.int q)) {z : Value} (hz : (zeroValue et).run P w = .ok z w) (k : Int) :
    (Instr.lookup t (.map (some b)) (.int .i64 k) false).run P w = .ok ((get k l).getD z) w := by
  obtain ⟨es, ck, hh, he, hf⟩ := h.find hk k
  unfold Instr.lookup
  rw [← find_get]
  cases hq : Bs.find k l with
  | none => rw [hq] at hf; simp [run_underlying ht, MapKept.run_getObj_map hh, run_checkKey hk, hf, hz]
  | some r => rw [hq] at hf; simp [run_underlying ht, MapKept.run_getObj_map hh, run_checkKey hk, hf]

theorem MapIs.look_ok (h : MapIs w b l) (ht : P.underlying t = some (.map kt et)) (hk : P.underlying kt = some (.int q)) {z : Value} (hz : (zeroValue et).run P w = .ok z w) (k : Int) :
    (Instr.lookup t (.map (some b)) (.int .i64 k) true).run P w = .ok (.tuple #[(get k l).getD z, .bool (get k l).isSome]) w := by
  obtain ⟨es, ck, hh, he, hf⟩ := h.find hk k
  unfold Instr.lookup
  rw [← find_get]
  cases hq : Bs.find k l with
  | none => rw [hq] at hf; simp [run_underlying ht, MapKept.run_getObj_map hh, run_checkKey hk, hf, hz]
  | some r => rw [hq] at hf; simp [run_underlying ht, MapKept.run_getObj_map hh, run_checkKey hk, hf]

theorem setBlock_grown {es es' : Array MapEntry} {ck ck' : Nat} (hb : w.heap[b]? = some (.map es ck)) : w.grownBy (setBlock w b (.map es' ck')) (some b) ∧ (setBlock w b (.map es' ck')).heap.size = w.heap.size :=
  ⟨⟨rfl, rfl, rfl, by simp [setBlock], fun k _ hne => heap_setBlock_other hb _ (fun e => hne (by rw [e]))⟩, by simp [setBlock]⟩

/-- 'm[k] = v'. -/
theorem MapIs.upd (h : MapIs w b l) (ht : P.underlying t = some (.map kt et)) (hk : P.underlying kt = some (.int q)) (k : Int) (v : Value) :
    ∃ w', (Instr.mapUpdate t (.map (some b)) (.int .i64 k) v).run P w = .ok () w' ∧ MapIs w' b (put k v l) ∧ w.grownBy w' (some b) ∧ w'.heap.size = w.heap.size := by
  obtain ⟨es, ck, hh, he, hf⟩ := h.find hk k
  cases hq : Bs.find k l with
  | none =>
    rw [hq] at hf
    refine ⟨setBlock w b (.map (es.push { key := .int .i64 k, val := v, born := ck }) (ck + 1)), ?_, ⟨_, _, heap_setBlock_same hh _, ?_⟩, (setBlock_grown hh).1, (setBlock_grown hh).2⟩
    · simp [Instr.mapUpdate, run_underlying ht, MapKept.run_getObj_map hh, run_checkKey hk, hf, MapKept.run_setObj_map _ hh, Result.andThen, setBlock]
    · rw [find_none_put k v l hq]
      simp [he, kv, ikv]
  | some r =>
    obtain ⟨i, u⟩ := r
    rw [hq] at hf
    have hl := find_key k l i u hq
    have hei : (es.toList.map kv)[i]? = some (.int .i64 k, u) := by rw [he]; simp [hl, ikv]
    simp only [List.getElem?_map, Option.map_eq_some_iff] at hei
    obtain ⟨e, hei, hke⟩ := hei
    have hei' : es[i]? = some e := by simpa using hei
    simp only [kv, Prod.mk.injEq] at hke
    have hst : ∀ w : World, (Instr.keyThatStays (.int .i64 k) (.int .i64 k)).run P w = .ok (.int .i64 k) w := fun w => by
      simp [Instr.keyThatStays, Instr.sameBits]
    refine ⟨setBlock w b (.map (es.modify i fun e => { e with key := .int .i64 k, val := v }) ck), ?_, ⟨_, _, heap_setBlock_same hh _, ?_⟩, (setBlock_grown hh).1, (setBlock_grown hh).2⟩
    · simp [Instr.mapUpdate, run_underlying ht, MapKept.run_getObj_map hh, run_checkKey hk, hf, hei', hke.1, hst, MapKept.run_setObj_map _ hh, Result.andThen, setBlock]
    · rw [find_some_put k v l i u hq, Array.toList_modify]
      apply List.ext_getElem?
      intro j
      have hj : (es.toList.map kv)[j]? = (l.map ikv)[j]? := by rw [he]
      simp only [List.getElem?_map, List.getElem?_modify] at hj ⊢
      by_cases hij : i = j
      · subst hij
        rw [hei] at hj
        simp [hei, hl, kv, ikv]
      · simp only [hij, if_false]
        simpa using hj

/-- 'delete(m, k)'. -/
theorem MapIs.drop (h : MapIs w b l) (ht : P.underlying t = some (.map kt et)) (hk : P.underlying kt = some (.int q)) (ty : TypeId) (k : Int) :
    ∃ w', (Builtin.delete_ #[t, kt] ty #[.map (some b), .int .i64 k]).run P w = .ok (.tuple #[]) w' ∧ MapIs w' b (del k l) ∧ w.grownBy w' (some b) ∧ w'.heap.size = w.heap.size := by
  obtain ⟨es, ck, hh, he, hf⟩ := h.find hk k
  cases hq : Bs.find k l with
  | none =>
    rw [hq] at hf
    refine ⟨setBlock w b (.map es ck), ?_, ⟨_, _, heap_setBlock_same hh _, ?_⟩, (setBlock_grown hh).1, (setBlock_grown hh).2⟩
    · simp [Builtin.delete_, run_underlying ht, MapKept.run_getObj_map hh, run_checkKey hk, hf, MapKept.run_setObj_map _ hh, Result.andThen, setBlock]
    · rw [find_none_del k l hq]; exact he
  | some r =>
    obtain ⟨i, u⟩ := r
    rw [hq] at hf
    refine ⟨setBlock w b (.map (es.eraseIdxIfInBounds i) ck), ?_, ⟨_, _, heap_setBlock_same hh _, ?_⟩, (setBlock_grown hh).1, (setBlock_grown hh).2⟩
    · simp [Builtin.delete_, run_underlying ht, MapKept.run_getObj_map hh, run_checkKey hk, hf, MapKept.run_setObj_map _ hh, Result.andThen, setBlock]
    · rw [find_some_del k l i u hq]
      rw [Array.toList_eraseIdxIfInBounds]
      apply List.ext_getElem?
      intro j
      have hj : ∀ j : Nat, (es.toList.map kv)[j]? = (l.map ikv)[j]? := fun j => by rw [he]
      simp only [List.getElem?_map, List.getElem?_eraseIdx] at hj ⊢
      split
      · exact hj j
      · exact hj (j + 1)
end

theorem MapIs.kept {w w' : World} {b : Nat} {l : List (Int × Value)} (h : MapIs w b l) (hb : w'.heap[b]? = w.heap[b]?) : MapIs w' b l := by
  obtain ⟨es, ck, hh, he⟩ := h
  exact ⟨es, ck, hb.trans hh, he⟩
theorem MapIs.lt {w : World} {b : Nat} {l : List (Int × Value)} (h : MapIs w b l) : b < w.heap.size := by
  obtain ⟨es, ck, hh, he⟩ := h
  exact (Array.getElem?_eq_some_iff.1 hh).1
theorem MapIs.grown {w w' : World} {b : Nat} {l : List (Int × Value)} {row : Option Nat} (h : MapIs w b l) (hg : w.grownBy w' row) (hr : row ≠ some b) : MapIs w' b l :=
  h.kept (hg.block b h.lt (fun e => hr e.symm))
theorem MapIs.alloc {w : World} {b : Nat} {l : List (Int × Value)} (h : MapIs w b l) (o : Obj) : MapIs (w.alloc o) b l := h.grown (World.grownBy_alloc w o none) (by simp)
theorem MapIs.drew {w : World} {b : Nat} {l : List (Int × Value)} (h : MapIs w b l) : MapIs w.drew b l := h
theorem MapIs.setCell {w : World} {b : Nat} {l : List (Int × Value)} (h : MapIs w b l) {a : Addr} (ha : a.block ≠ b) (u : Value) : MapIs (w.setCell a u) b l :=
  h.kept (Below.heap_setCell _ _ _ _ (fun e => ha e.symm))
theorem MapIs.made (w : World) : MapIs (w.alloc (.map #[] 0)) w.heap.size [] := ⟨#[], 0, heap_alloc_new w _, rfl⟩

/-- A cells' block is no map's. -/
theorem MapIs.ne_owns {w : World} {b base : Nat} {l : List (Int × Value)} {e : TypeId} {v : Value} {n : Nat} {xs : List Value} (h : MapIs w b l) (ho : w.ownsRow base e 1 v n xs) : v.ownBlock ≠ some b := by
  intro hv
  obtain ⟨es, ck, hh, _⟩ := h
  rcases ho.2 with ⟨rfl, _⟩ | ⟨g, cap, cur, rfl, _, hg, _⟩
  · simp [Value.ownBlock] at hv
  · simp [Value.ownBlock] at hv
    subst hv
    rw [hh] at hg
    cases hg
theorem MapIs.ne_cell {w : World} {b : Nat} {l : List (Int × Value)} {a : Addr} {v : Value} (h : MapIs w b l) (hc : w.cell? a = some v) : a.block ≠ b := by
  intro e
  obtain ⟨es, ck, hh, _⟩ := h
  subst e
  simp [World.cell?, hh] at hc

theorem run_lenMap {P : Program} {w : World} {b : Nat} {l : List (Int × Value)} (h : MapIs w b l) {t kt et : TypeId} (ht : P.underlying t = some (.map kt et)) (ty : TypeId) : (Builtin.len_ #[t] ty #[.map (some b)]).run P w = .ok (goInt l.length) w := by
  obtain ⟨es, ck, hh, he⟩ := h
  have hs : es.size = l.length := by have := congrArg List.length he; simpa using this
  simp [Builtin.len_, run_underlying ht, MapKept.run_getObj_map hh, hs]
end Go.Bs
