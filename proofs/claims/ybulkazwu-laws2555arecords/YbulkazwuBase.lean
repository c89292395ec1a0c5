/-
  Small plain laws on slices in memory (no program text): 'Sl ok w v cs': the slice value v reads, in the world w, as the cells cs (one cell an element), in a block of which 'ok' holds.
-/
import Derived.WalkKit
import Derived.WalkSpells
import Derived.Maps.AppendAt
namespace Go.Bs
open Go.RowKit

def Sl (ok : Nat → Prop) (w : World) (v : Value) (cs : List Value) : Prop :=
  ∃ a cap, v = .slice a cs.length cap ∧ cs.length ≤ cap ∧ cap ≤ maxLen ∧ (a = none → cap = 0) ∧
    (cs ≠ [] → ∃ b off, a = some ⟨b, off, none⟩ ∧ ok b ∧ b < w.heap.size ∧ ∀ i u, cs[i]? = some u → w.cell? ⟨b, off + i, none⟩ = some u)

def u8s (zs : List Int) : List Value := zs.map (Value.int .u8)

theorem u8s_length (zs : List Int) : (u8s zs).length = zs.length := by simp [u8s]
theorem u8s_get (zs : List Int) (i : Nat) (h : i < zs.length) : (u8s zs)[i]? = some (.int .u8 (zs.getD i 0)) := by
  simp [u8s, h]
theorem u8s_append (a b : List Int) : u8s (a ++ b) = u8s a ++ u8s b := by simp [u8s]
theorem u8s_one (zs : List Int) : ∀ u ∈ u8s zs, u.oneCell' = true := ints_oneCell _ _

theorem Sl.mono {ok ok' : Nat → Prop} {w : World} {v : Value} {cs : List Value} (h : Sl ok w v cs) (hk : ∀ b, ok b → b < w.heap.size → ok' b) : Sl ok' w v cs := by
  obtain ⟨a, cap, h1, h2, h3, h4, h5⟩ := h
  refine ⟨a, cap, h1, h2, h3, h4, fun hne => ?_⟩
  obtain ⟨b, off, e, hb, hlt, hc⟩ := h5 hne
  exact ⟨b, off, e, hk b hb hlt, hlt, hc⟩

theorem Sl.kept {ok : Nat → Prop} {w w' : World} {v : Value} {cs : List Value} (h : Sl ok w v cs) (hs : w.heap.size ≤ w'.heap.size)
    (hb : ∀ k, ok k → k < w.heap.size → w'.heap[k]? = w.heap[k]?) : Sl ok w' v cs := by
  obtain ⟨a, cap, h1, h2, h3, h4, h5⟩ := h
  refine ⟨a, cap, h1, h2, h3, h4, fun hne => ?_⟩
  obtain ⟨b, off, e, hok, hlt, hc⟩ := h5 hne
  exact ⟨b, off, e, hok, Nat.lt_of_lt_of_le hlt hs, fun i u hu => (World.cell?_of_block (w := w) (a := ⟨b, off + i, none⟩) (hb b hok hlt)).trans (hc i u hu)⟩

theorem Sl.grown {ok : Nat → Prop} {w w' : World} {v : Value} {cs : List Value} {row : Option Nat} (h : Sl ok w v cs) (hg : w.grownBy w' row) (hr : ∀ k, ok k → some k ≠ row) : Sl ok w' v cs :=
  h.kept hg.size (fun k hk hlt => hg.block k hlt (hr k hk))

theorem Sl.drew {ok : Nat → Prop} {w : World} {v : Value} {cs : List Value} (h : Sl ok w v cs) : Sl ok w.drew v cs := h
theorem Sl.alloc {ok : Nat → Prop} {w : World} {v : Value} {cs : List Value} (h : Sl ok w v cs) (o : Obj) : Sl ok (w.alloc o) v cs :=
  h.grown (World.grownBy_alloc w o none) (fun _ _ => by simp)
theorem Sl.setCell {ok : Nat → Prop} {w : World} {v : Value} {cs : List Value} (h : Sl ok w v cs) {a : Addr} (ha : ¬ ok a.block) (u : Value) : Sl ok (w.setCell a u) v cs :=
  h.kept (by simp [World.setCell]) (fun k hk _ => Below.heap_setCell _ _ _ _ (fun e => ha (e ▸ hk)))

theorem Sl.nil (ok : Nat → Prop) (w : World) : Sl ok w (.slice none 0 0) [] := ⟨none, 0, rfl, Nat.le_refl _, Nat.zero_le _, fun _ => rfl, fun h => absurd rfl h⟩

/-- A row that the call owns, read as a slice. -/
theorem Sl.ofOwns {w : World} {base : Nat} {e : TypeId} {v : Value} {n : Nat} {xs : List Value} (h : w.ownsRow base e 1 v n xs) : Sl (fun b => v.ownBlock = some b ∧ base ≤ b) w v xs := by
  obtain ⟨hl, h2⟩ := h
  rw [Nat.mul_one] at hl
  rcases h2 with ⟨rfl, rfl⟩ | ⟨g, cap, cur, rfl, hg, hh, hn, hm, hs, ht⟩
  · obtain rfl : xs = [] := List.eq_nil_of_length_eq_zero hl
    exact Sl.nil _ _
  · refine ⟨some ⟨g, 0, none⟩, cap, by rw [hl], by omega, hm, (fun h => by cases h), fun _ => ⟨g, 0, rfl, ⟨rfl, hg⟩, (Array.getElem?_eq_some_iff.1 hh).1, fun i u hu => ?_⟩⟩
    rw [Nat.zero_add, cell_of_row w g i cur e (0, 0) hh]
    rw [Nat.mul_one] at ht
    rw [← ht, List.getElem?_take] at hu
    split at hu
    · simpa using hu
    · cases hu

/-- The new array of a slice literal. -/
theorem Sl.lit {ok : Nat → Prop} (w : World) (c : Array Value) (t : TypeId) (hok : ok w.heap.size) (hm : c.size ≤ maxLen) : Sl ok (w.alloc (.cells c t)) (.slice (some ⟨w.heap.size, 0, none⟩) c.size c.size) c.toList := by
  refine ⟨some ⟨w.heap.size, 0, none⟩, c.size, by simp, by simp, hm, (fun h => by cases h), fun _ => ⟨w.heap.size, 0, rfl, hok, by simp, fun i u hu => ?_⟩⟩
  rw [Nat.zero_add, cell_of_row (w.alloc (.cells c t)) w.heap.size i c t (0, 0) (heap_alloc_new w _)]
  simpa using hu

/-- The one new cell of a literal of one element, as append reads it. -/
theorem news1 (w : World) (x : Value) (t : TypeId) : ∀ j u, [x][j]? = some u → (w.alloc (.cells #[x] t)).cell? ((⟨w.heap.size, 0, none⟩ : Addr).add j) = some u := by
  intro j u hj
  match j, hj with
  | 0, hj => simp at hj; subst hj; simp [Addr.add]

/-- The two shapes of a slice, for a walk. -/
theorem Sl.shape {ok : Nat → Prop} {w : World} {v : Value} {cs : List Value} (h : Sl ok w v cs) :
    ∃ a cap, v = .slice a cs.length cap ∧ cs.length ≤ cap ∧ cap ≤ maxLen ∧ (0 < cs.length → ∃ b off, a = some ⟨b, off, none⟩ ∧ ok b ∧ b < w.heap.size ∧ ∀ i u, cs[i]? = some u → w.cell? ⟨b, off + i, none⟩ = some u) := by
  obtain ⟨a, cap, h1, h2, h3, h4, h5⟩ := h
  exact ⟨a, cap, h1, h2, h3, fun hp => h5 (fun e => by subst e; simp at hp)⟩

/-- The same number of cells, the first left out: what 's[1:]' reads. -/
theorem Sl.tail {ok : Nat → Prop} {w : World} {a : Option Addr} {n cap : Nat} {c : Value} {cs : List Value} (h : Sl ok w (.slice a n cap) (c :: cs)) :
    ∃ b off, a = some ⟨b, off, none⟩ ∧ n = cs.length + 1 ∧ cs.length + 1 ≤ cap ∧ cap ≤ maxLen ∧ Sl ok w (.slice (some ⟨b, off + 1, none⟩) cs.length (cap - 1)) cs ∧ (cs = [] → ∀ x, Sl ok w (.slice (some x) 0 (cap - 1)) cs) := by
  obtain ⟨a', cap', h1, h2, h3, h4, h5⟩ := h
  obtain ⟨b, off, e, hok, hlt, hc⟩ := h5 (by simp)
  simp only [Value.slice.injEq, List.length_cons] at h1 h2
  obtain ⟨rfl, rfl, rfl⟩ := h1
  refine ⟨b, off, e, rfl, h2, h3, ⟨_, _, rfl, by omega, by omega, (fun h => by cases h), fun _ => ⟨b, off + 1, rfl, hok, hlt, fun i u hu => ?_⟩⟩, fun hn x => ?_⟩
  · have := hc (i + 1) u (by simpa using hu)
    rwa [show off + (i + 1) = off + 1 + i by omega] at this
  · subst hn
    exact ⟨some x, cap - 1, rfl, by simp, by omega, (fun h => by cases h), fun h => absurd rfl h⟩

theorem grownBy.trans {a b c : World} {row : Option Nat} (h : a.grownBy b row) (k : b.grownBy c row) : a.grownBy c row :=
  ⟨k.os.trans h.os, k.tape.trans h.tape, k.output.trans h.output, Nat.le_trans h.size k.size, fun i hi hne => (k.block i (Nat.lt_of_lt_of_le hi h.size) hne).trans (h.block i hi hne)⟩
theorem grownBy.any {a b : World} (h : a.grownBy b none) (row : Option Nat) : a.grownBy b row := ⟨h.os, h.tape, h.output, h.size, fun i hi _ => h.block i hi (by simp)⟩
theorem grownBy.drew {a b : World} {row : Option Nat} (h : a.grownBy b row) : a.grownBy b.drew row := ⟨h.os, h.tape, h.output, h.size, h.block⟩
theorem grownBy.ofDrew {a b : World} {row : Option Nat} (h : a.drew.grownBy b row) : a.grownBy b row := ⟨h.os, h.tape, h.output, h.size, h.block⟩
theorem grownBy.alloc {a b : World} {row : Option Nat} (h : a.grownBy b row) (o : Obj) : a.grownBy (b.alloc o) row := grownBy.trans h (World.grownBy_alloc b o row)
theorem grownBy.setCell {a b : World} {row : Option Nat} (h : a.grownBy b row) {p : Addr} (hp : row = some p.block ∨ a.heap.size ≤ p.block) (u : Value) : a.grownBy (b.setCell p u) row :=
  ⟨h.os, h.tape, h.output, by simpa [World.setCell] using h.size, fun i hi hne => (Below.heap_setCell _ _ _ _ (fun e => by rcases hp with hp | hp; exact hne (by rw [hp, e]); omega)).trans (h.block i hi hne)⟩
/-- Writes to blocks made since do not count. -/
theorem grownBy.inner {a b c : World} {row row' : Option Nat} (h : a.grownBy b row) (k : b.grownBy c row') (hr : ∀ i, row' = some i → a.heap.size ≤ i) : a.grownBy c row :=
  ⟨k.os.trans h.os, k.tape.trans h.tape, k.output.trans h.output, Nat.le_trans h.size k.size, fun i hi hne => (k.block i (Nat.lt_of_lt_of_le hi h.size) (fun e => by have := hr i e.symm; omega)).trans (h.block i hi hne)⟩
theorem grownBy.below {w w' : World} (h : w.grownBy w' none) : Below w.heap.size w w' := ⟨h.os, h.tape, h.output, h.size, fun i hi => h.block i hi (by simp)⟩
theorem grownBy.ofBelow {w w' : World} (h : Below w.heap.size w w') : w.grownBy w' none := ⟨h.os, h.tape, h.output, h.size, fun i hi _ => h.block i hi⟩

theorem cellG {w w' : World} {row : Option Nat} {a : Addr} {v : Value} (hg : w.grownBy w' row) (hne : row = none ∨ row ≠ some a.block) (h : w.cell? a = some v) : w'.cell? a = some v :=
  hg.cell h (fun e => by rcases hne with hne | hne; rw [hne] at e; cases e; exact hne e.symm)
theorem frozG {w w' : World} {row : Option Nat} {a : Addr} (hg : w.grownBy w' row) (hne : row = none ∨ row ≠ some a.block) (hlt : a.block < w.heap.size) (h : w.frozen? a = false) : w'.frozen? a = false :=
  (World.frozen?_of_block (hg.block a.block hlt (fun e => by rcases hne with hne | hne; rw [hne] at e; cases e; exact hne e.symm))).trans h

/-- 'append(v, u...)' onto a row of the call's own, from whatever slice: the run. -/
theorem run_app {P : Program} (w : World) (base : Nat) (t ty e : TypeId) (i : TypeInfo) (z : Value) (bytes : Nat) (ht : P.underlying t = some (.slice e)) (hi : P.info? e = some i) (hz : i.zero = some z)
    (hsize : i.size = 1) (hby : i.bytes = bytes) (hzs : z.cells.size = 1)
    (v : Value) (n : Nat) (xs : List Value) (hown : w.ownsRow base e 1 v n xs) {ok : Nat → Prop} (u : Value) (news : List Value) (hu : Sl ok w u news) (h1 : ∀ u ∈ news, u.oneCell' = true)
    (h63 : n + news.length ≤ maxLen) (hbytes : (n + news.length) * bytes ≤ 140737488355328) (hbase : base ≤ w.heap.size) :
    ∃ v' w', (Builtin.append_ #[t, t] ty #[v, u]).run P w = .ok v' w' ∧ w'.ownsRow base e 1 v' (n + news.length) (xs ++ news) ∧ w.grownBy w' v.ownBlock ∧ (v'.ownBlock = v.ownBlock ∨ v'.ownBlock = some w.heap.size) := by
  obtain ⟨a, cap, rfl, h2, h3, h4, h5⟩ := hu
  cases a with
  | none =>
    obtain rfl := h4 rfl
    have hn : news = [] := List.eq_nil_of_length_eq_zero (by omega)
    subst hn
    exact ⟨v, w, run_append_owned_none (P := P) w base t ty e i 1 ht hi v n xs hown, by simpa using hown, World.grownBy.refl _ _, Or.inl rfl⟩
  | some ad =>
    obtain ⟨v', w', r1, r2, r3, _, r5⟩ := run_append_own_at (P := P) w base t ty e i z 1 bytes ht hi hz hsize hby hzs (by decide) v n xs hown ad news.length cap news (by simp) (fun j u hj => by
      obtain ⟨b, off, e, _, _, hc⟩ := h5 (fun e => by subst e; simp at hj)
      obtain rfl := Option.some.inj e
      rw [Addr.add_lit]
      exact hc j u hj) h1 h63 hbytes hbase
    exact ⟨v', w', r1, r2, r3, r5⟩

/-- The same as a law for the walk. -/
theorem wpList_app {P : Program} (w : World) {ops : Array Oper} {rest : List Oper} {o : Oper} {a : Act} {Q : Exit → Act → World → Prop}
    (hg : o.guard = none) (s x : Operand) (t : TypeId) (hop : o.op = Op.call { callee := Callee.builtin Builtin.append, args := #[s, x], argTypes := #[t, t] })
    (base : Nat) (e : TypeId) (i : TypeInfo) (z : Value) (bytes : Nat) (ht : P.underlying t = some (.slice e)) (hi : P.info? e = some i) (hz : i.zero = some z)
    (hsize : i.size = 1) (hby : i.bytes = bytes) (hzs : z.cells.size = 1)
    (v : Value) (n : Nat) (xs : List Value) (hs : a.eval s = v) (hown : w.ownsRow base e 1 v n xs) (ok : Nat → Prop) (u : Value) (news : List Value) (hx : a.eval x = u) (hu : Sl ok w u news) (h1 : ∀ u ∈ news, u.oneCell' = true)
    (h63 : n + news.length ≤ maxLen) (hbytes : (n + news.length) * bytes ≤ 140737488355328) (hbase : base ≤ w.heap.size)
    (hK : ∀ v' w', w'.ownsRow base e 1 v' (n + news.length) (xs ++ news) → w.grownBy w' v.ownBlock → (v'.ownBlock = v.ownBlock ∨ v'.ownBlock = some w.heap.size) → wpList P ops Q rest (a.put o.dst v') w') :
    wpList P ops Q (o :: rest) a w := by
  refine wpList_plain hg fun K hK' => ?_
  obtain ⟨v', w', hrun, r1, r2, r3⟩ := run_app (P := P) w base t o.type e i z bytes ht hi hz hsize hby hzs v n xs hown u news hu h1 h63 hbytes hbase
  unfold Oper.wp
  simp [execOp, hop, resolve, invoke, builtin, hs, hx, hrun, Result.andThen]
  exact hK' _ _ (hK v' w' r1 r2 r3)

/-- Slices of bytes, one a value. -/
def Sls (ok : Nat → Prop) (w : World) (rs : List Value) (zss : List (List Int)) : Prop :=
  rs.length = zss.length ∧ ∀ (i : Nat) (r : Value) (zs : List Int), rs[i]? = some r → zss[i]? = some zs → Sl ok w r (u8s zs)

theorem Sls.nil (ok : Nat → Prop) (w : World) : Sls ok w [] [] := ⟨rfl, fun i r zs h => by simp at h⟩
theorem Sls.mono {ok ok' : Nat → Prop} {w : World} {rs : List Value} {zss : List (List Int)} (h : Sls ok w rs zss) (hk : ∀ b, ok b → b < w.heap.size → ok' b) : Sls ok' w rs zss :=
  ⟨h.1, fun i r zs h1 h2 => (h.2 i r zs h1 h2).mono hk⟩
theorem Sls.kept {ok : Nat → Prop} {w w' : World} {rs : List Value} {zss : List (List Int)} (h : Sls ok w rs zss) (hs : w.heap.size ≤ w'.heap.size)
    (hb : ∀ k, ok k → k < w.heap.size → w'.heap[k]? = w.heap[k]?) : Sls ok w' rs zss := ⟨h.1, fun i r zs h1 h2 => (h.2 i r zs h1 h2).kept hs hb⟩
theorem Sls.grown {ok : Nat → Prop} {w w' : World} {rs : List Value} {zss : List (List Int)} {row : Option Nat} (h : Sls ok w rs zss) (hg : w.grownBy w' row) (hr : ∀ k, ok k → some k ≠ row) : Sls ok w' rs zss :=
  h.kept hg.size (fun k hk hlt => hg.block k hlt (hr k hk))
theorem Sls.snoc {ok : Nat → Prop} {w : World} {rs : List Value} {zss : List (List Int)} {r : Value} {zs : List Int} (h : Sls ok w rs zss) (hr : Sl ok w r (u8s zs)) : Sls ok w (rs ++ [r]) (zss ++ [zs]) := by
  refine ⟨by simp [h.1], fun i r' zs' h1 h2 => ?_⟩
  by_cases hi : i < rs.length
  · rw [List.getElem?_append_left hi] at h1
    rw [List.getElem?_append_left (by rw [← h.1]; exact hi)] at h2
    exact h.2 i r' zs' h1 h2
  · rw [List.getElem?_append_right (by omega)] at h1
    rw [List.getElem?_append_right (by rw [← h.1]; omega), ← h.1] at h2
    match hj : i - rs.length, h1, h2 with
    | 0, h1, h2 =>
      simp at h1 h2
      subst h1; subst h2
      exact hr
theorem Sls.tail {ok : Nat → Prop} {w : World} {r : Value} {rs : List Value} {zs : List Int} {zss : List (List Int)} (h : Sls ok w (r :: rs) (zs :: zss)) : Sls ok w rs zss :=
  ⟨by simpa using h.1, fun i r' zs' h1 h2 => h.2 (i + 1) r' zs' (by simpa using h1) (by simpa using h2)⟩

/-- One slice more, pushed onto a row of the call's own that holds such slices. -/
theorem Sls.push {p : Nat → Prop} {wr w1 w2 : World} {tv c : Value} {rs : List Value} {zss : List (List Int)} {zs : List Int} {g : Nat} {o : Obj}
    (hS : Sls (fun b => p b ∧ tv.ownBlock ≠ some b) wr rs zss) (hlt : ∀ k, tv.ownBlock = some k → k < wr.heap.size) (hp : ∀ b, wr.heap.size ≤ b → p b)
    (hg1 : wr.grownBy w1 none) (hc : Sl (fun b => wr.heap.size ≤ b) w1 c (u8s zs)) (hg2 : (w1.alloc o).grownBy w2 tv.ownBlock) (hat : tv.ownBlock = some g ∨ g = w1.heap.size + 1) :
    Sls (fun b => p b ∧ some g ≠ some b) w2 (rs ++ [c]) (zss ++ [zs]) := by
  have hsz := hg1.size
  refine Sls.snoc ?_ ?_
  · have h1 : Sls (fun b => (p b ∧ tv.ownBlock ≠ some b) ∧ b < wr.heap.size) wr rs zss := hS.mono (fun b hb hl => ⟨hb, hl⟩)
    have h2 := ((h1.grown hg1 (fun _ _ => by simp)).grown (World.grownBy_alloc w1 o none) (fun _ _ => by simp)).grown hg2 (fun k hk => Ne.symm hk.1.2)
    refine h2.mono (fun b hb _ => ⟨hb.1.1, fun e => ?_⟩)
    obtain rfl := Option.some.inj e
    rcases hat with hat | hat
    · exact hb.1.2 hat
    · omega
  · have h1 : Sl (fun b => wr.heap.size ≤ b ∧ b < w1.heap.size) w1 c (u8s zs) := hc.mono (fun b hb hl => ⟨hb, hl⟩)
    have h2 := (h1.alloc o).grown hg2 (fun k hk e => by have := hlt k e.symm; omega)
    refine h2.mono (fun b hb _ => ⟨hp b hb.1, fun e => ?_⟩)
    obtain rfl := Option.some.inj e
    rcases hat with hat | hat
    · have := hlt _ hat; omega
    · omega

/-- Of the old blocks A alone has turned, and of A cell n alone, which holds d. -/
structure Noted (A n : Nat) (w w' : World) (d : Value) : Prop where
  here : w'.cell? ⟨A, n, none⟩ = some d
  other : ∀ o, o ≠ n → w'.cell? ⟨A, o, none⟩ = w.cell? ⟨A, o, none⟩
  frozen : ∀ o, w'.frozen? ⟨A, o, none⟩ = w.frozen? ⟨A, o, none⟩
  grown : w.grownBy w' (some A)

theorem Noted.grow {A n : Nat} {w w' w'' : World} {d : Value} (h : Noted A n w w' d) (hA : A < w.heap.size) (hg : w'.grownBy w'' none) : Noted A n w w'' d := by
  have hA' : A < w'.heap.size := Nat.lt_of_lt_of_le hA h.grown.size
  have hb : w''.heap[A]? = w'.heap[A]? := hg.block A hA' (by simp)
  exact ⟨(World.cell?_of_block (a := ⟨A, n, none⟩) hb).trans h.here, fun o ho => (World.cell?_of_block (a := ⟨A, o, none⟩) hb).trans (h.other o ho), fun o => (World.frozen?_of_block (a := ⟨A, o, none⟩) hb).trans (h.frozen o), grownBy.trans h.grown (grownBy.any hg _)⟩

theorem Noted.store {A n : Nat} {w w' : World} {x : Value} (d : Value) (hA : A < w.heap.size) (hg : w.grownBy w' none) (hc : w'.cell? ⟨A, n, none⟩ = some x) : Noted A n w (w'.setCell ⟨A, n, none⟩ d) d := by
  have hb : w'.heap[A]? = w.heap[A]? := hg.block A hA (by simp)
  refine ⟨World.cell?_setCell_same _ _ _ hc, fun o ho => ?_, fun o => ?_, grownBy.setCell (grownBy.any hg _) (.inl rfl) _⟩
  · rw [World.cell?_setCell_other _ ⟨A, n, none⟩ ⟨A, o, none⟩ _ (by simp)]
    exact World.cell?_of_block (a := ⟨A, o, none⟩) hb
  · rw [World.frozen?_setCell]
    exact World.frozen?_of_block (a := ⟨A, o, none⟩) hb

end Go.Bs
