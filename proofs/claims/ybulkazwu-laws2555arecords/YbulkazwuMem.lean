import Derived.Test.YbulkazwuFill
namespace Go.Proofs.Ybulkazwu
open Go.RowKit Go.Bs

theorem Fill.drew {w wx : World} {TB LR CK G n : Nat} {sent : List Int} {ns s : Int} {mem : Value} {req : Int} {j t : Nat} (h : Fill w wx TB LR CK G n sent ns s mem req j t) : Fill w wx.drew TB LR CK G n sent ns s mem req j t :=
  h.kept (grownBy.drew (World.grownBy.refl _ _))

/-- The members, each by its remainder. -/
def msOf (n : Nat) (mem : List Int) : List Nat := mem.map fun z => z.toNat % n
/-- How many of the first x members differ. -/
def dn (n : Nat) (ms : List Nat) (x : Nat) : Nat := cnt ((ms.take x).map fun m : Nat => (m : Int)) 0 n
theorem dn_le (n : Nat) (ms : List Nat) (x : Nat) : dn n ms x ≤ n := cnt_le _ _ _
theorem dn_in {n : Nat} {ms : List Nat} {x m : Nat} (hm : ms[x]? = some m) (hi : m ∈ ms.take x) : dn n ms (x + 1) = dn n ms x := by
  unfold dn
  refine cnt_congr (fun y => ?_) _ _
  rw [List.take_add_one, hm]
  simp only [Option.toList_some, List.map_append, List.mem_append, List.map_cons, List.map_nil, List.mem_singleton]
  constructor
  · rintro (h | rfl)
    · exact h
    · exact List.mem_map.2 ⟨m, hi, rfl⟩
  · exact .inl
theorem dn_new {n : Nat} {ms : List Nat} {x m : Nat} (hm : ms[x]? = some m) (hn : m < n) (hi : m ∉ ms.take x) : dn n ms (x + 1) = dn n ms x + 1 := by
  unfold dn
  have h1 : ((m : Nat) : Int) ∉ (ms.take x).map fun m : Nat => (m : Int) := by
    intro h
    obtain ⟨y, hy, e⟩ := List.mem_map.1 h
    obtain rfl : y = m := by omega
    exact hi hy
  have h2 := cnt_cons (b := 0) (j := m) h1 (by omega) n
  rw [if_pos hn] at h2
  rw [← h2]
  refine cnt_congr (fun y => ?_) _ _
  rw [List.take_add_one, hm]
  simp only [Option.toList_some, List.map_append, List.mem_append, List.map_cons, List.map_nil, List.mem_cons, List.not_mem_nil, or_false]
  exact or_comm

/-- The world of the third loop: x members noted. -/
structure MsW (w wx : World) (TB LR CK G n : Nat) (sent : List Int) (ns s : Int) (mem : Value) (req : Int) (MS SE : Nat) (ms : List Nat) (x : Nat) : Prop where
  f : Fill w wx TB LR CK G n sent ns s mem req n 0
  mr : ∃ cs, wx.heap[MS]? = some (.cells cs 3 (0, 0)) ∧ cs.size = ms.length ∧ ∀ y m : Nat, y < x → ms[y]? = some m → cs[y]? = some (.int .i64 (m : Int))
  sr : ∃ cs, wx.heap[SE]? = some (.cells cs 4 (0, 0)) ∧ cs.size = n ∧ ∀ i, i < n → cs[i]? = some (.bool (decide (i ∈ ms.take x)))
  lo : w.heap.size ≤ MS ∧ w.heap.size ≤ SE

section
variable {w wx : World} {TB LR CK G n : Nat} {sent : List Int} {ns s : Int} {mem : Value} {req : Int} {MS SE : Nat} {ms : List Nat} {x : Nat}

theorem MsW.made (h : Fill w wx TB LR CK G n sent ns s mem req n 0) (ms : List Nat) {M N : Array Value} (hM : M.size = ms.length) (hN : N.size = n ∧ ∀ i, i < n → N[i]? = some (.bool false)) :
    MsW w ((wx.alloc (.cells M 3)).alloc (.cells N 4)) TB LR CK G n sent ns s mem req wx.heap.size (wx.heap.size + 1) ms 0 := by
  have hs := h.g.size
  exact ⟨h.kept (grownBy.alloc (World.grownBy_alloc _ _ _) _), ⟨M, old_at (new_at rfl), hM, fun y m hy => by omega⟩, ⟨N, new_at (by simp), hN.1, fun i hi => by simpa using hN.2 i hi⟩, by omega⟩

theorem MsW.ne (h : MsW w wx TB LR CK G n sent ns s mem req MS SE ms x) : MS ≠ SE := by
  obtain ⟨c1, h1, _⟩ := h.mr
  obtain ⟨c2, h2, _⟩ := h.sr
  intro e
  rw [e, h2] at h1
  simp at h1

theorem MsW.mcell (h : MsW w wx TB LR CK G n sent ns s mem req MS SE ms x) (hx : x < ms.length) : (∃ v, wx.cell? ⟨MS, x, none⟩ = some v) ∧ wx.frozen? ⟨MS, x, none⟩ = false := by
  obtain ⟨cs, hh, hs, _⟩ := h.mr
  exact ⟨⟨cs[x]'(by omega), (cell_of_row wx MS x cs 3 (0, 0) hh).trans (Array.getElem?_eq_getElem (by omega))⟩, frozen_of_row wx MS x cs 3 hh⟩
theorem MsW.scell (h : MsW w wx TB LR CK G n sent ns s mem req MS SE ms x) {i : Nat} (hi : i < n) : wx.cell? ⟨SE, i, none⟩ = some (.bool (decide (i ∈ ms.take x))) ∧ wx.frozen? ⟨SE, i, none⟩ = false := by
  obtain ⟨cs, hh, hs, hc⟩ := h.sr
  exact ⟨(cell_of_row wx SE i cs 4 (0, 0) hh).trans (hc i hi), frozen_of_row wx SE i cs 4 hh⟩

theorem MsW.stepIn (h : MsW w wx TB LR CK G n sent ns s mem req MS SE ms x) {m : Nat} (hm : ms[x]? = some m) (hi : m ∈ ms.take x) : MsW w (wx.setCell ⟨MS, x, none⟩ (.int .i64 (m : Int))) TB LR CK G n sent ns s mem req MS SE ms (x + 1) := by
  have hne := h.ne
  obtain ⟨c1, h1, h2, h3⟩ := h.mr
  obtain ⟨c2, k1, k2, k3⟩ := h.sr
  refine ⟨h.f.other h.lo.1 (h.f.ne h1 (by decide) (by decide) (by decide) (by decide)) _, ⟨_, heap_setCell_same wx MS x _ 3 _ h1, by simp [h2], fun y m' hy hm' => ?_⟩, ⟨c2, (Below.heap_setCell _ _ _ _ (Ne.symm hne)).trans k1, k2, fun i hi' => ?_⟩, h.lo⟩
  · by_cases e : x = y
    · subst e
      rw [hm] at hm'
      obtain rfl := Option.some.inj hm'
      have : x < c1.size := by rw [h2]; exact (List.getElem?_eq_some_iff.1 hm).1
      simp [this]
    · rw [Array.getElem?_setIfInBounds, if_neg e]
      exact h3 y m' (by omega) hm'
  · rw [k3 i hi', List.take_add_one, hm]
    simp only [Option.toList_some, List.mem_append, List.mem_singleton]
    have : (i ∈ List.take x ms ∨ i = m) ↔ i ∈ List.take x ms := ⟨fun h => by rcases h with h | rfl <;> assumption, .inl⟩
    simp only [this]

theorem MsW.stepNew (h : MsW w wx TB LR CK G n sent ns s mem req MS SE ms x) {m : Nat} (hm : ms[x]? = some m) (hmn : m < n) :
    MsW w ((wx.setCell ⟨MS, x, none⟩ (.int .i64 (m : Int))).setCell ⟨SE, m, none⟩ (.bool true)) TB LR CK G n sent ns s mem req MS SE ms (x + 1) := by
  have hne := h.ne
  obtain ⟨c1, h1, h2, h3⟩ := h.mr
  obtain ⟨c2, k1, k2, k3⟩ := h.sr
  have hf := h.f.other h.lo.1 (h.f.ne h1 (by decide) (by decide) (by decide) (by decide)) (a := ⟨MS, x, none⟩) (.int .i64 (m : Int))
  have k1' : (wx.setCell ⟨MS, x, none⟩ (.int .i64 (m : Int))).heap[SE]? = some (.cells c2 4 (0, 0)) := (Below.heap_setCell _ _ _ _ (Ne.symm hne)).trans k1
  refine ⟨hf.other h.lo.2 (hf.ne k1' (by decide) (by decide) (by decide) (by decide)) _, ⟨_, (Below.heap_setCell _ _ _ _ hne).trans (heap_setCell_same wx MS x _ 3 _ h1), by simp [h2], fun y m' hy hm' => ?_⟩, ⟨_, heap_setCell_same _ SE m _ 4 _ k1', by simp [k2], fun i hi' => ?_⟩, h.lo⟩
  · by_cases e : x = y
    · subst e
      rw [hm] at hm'
      obtain rfl := Option.some.inj hm'
      have : x < c1.size := by rw [h2]; exact (List.getElem?_eq_some_iff.1 hm).1
      simp [this]
    · rw [Array.getElem?_setIfInBounds, if_neg e]
      exact h3 y m' (by omega) hm'
  · rw [List.take_add_one, hm]
    simp only [Option.toList_some, List.mem_append, List.mem_singleton]
    by_cases e : m = i
    · subst e
      simp [k2, hmn]
    · rw [Array.getElem?_setIfInBounds, if_neg e, k3 i hi']
      have : (i ∈ List.take x ms ∨ i = m) ↔ i ∈ List.take x ms := ⟨fun h => by rcases h with h | rfl; exact h; exact absurd rfl e, .inl⟩
      simp only [this]

theorem MsW.ring (h : MsW w wx TB LR CK G n sent ns s mem req MS SE ms x) {o : Nat} {u mem' : Value} {req' : Int} (he : (lrc CK G n mem req).setIfInBounds o u = lrc CK G n mem' req') : MsW w (wx.setCell ⟨LR, o, none⟩ u) TB LR CK G n sent ns s mem' req' MS SE ms x := by
  obtain ⟨c1, h1, h2, h3⟩ := h.mr
  obtain ⟨c2, k1, k2, k3⟩ := h.sr
  exact ⟨h.f.ring he, ⟨c1, (Below.heap_setCell _ _ _ _ (h.f.ne h1 (by decide) (by decide) (by decide) (by decide)).2.1).trans h1, h2, h3⟩, ⟨c2, (Below.heap_setCell _ _ _ _ (h.f.ne k1 (by decide) (by decide) (by decide) (by decide)).2.1).trans k1, k2, k3⟩, h.lo⟩

theorem MsW.lcell (h : MsW w wx TB LR CK G n sent ns s mem req MS SE ms x) {o : Nat} {v : Value} (hv : (lrc CK G n mem req)[o]? = some v) : wx.cell? ⟨LR, o, none⟩ = some v ∧ wx.frozen? ⟨LR, o, none⟩ = false :=
  ⟨(cell_of_row wx LR o _ 78 (0, 0) h.f.lr).trans hv, frozen_of_row wx LR o _ 78 h.f.lr⟩

theorem MsW.members (h : MsW w wx TB LR CK G n sent ns s mem req MS SE ms x) (hx : x = ms.length) (y m : Nat) (hm : ms[y]? = some m) : wx.cell? ⟨MS, y, none⟩ = some (.int .i64 (m : Int)) := by
  obtain ⟨cs, hh, hs, hc⟩ := h.mr
  exact (cell_of_row wx MS y cs 3 (0, 0) hh).trans (hc y m (by rw [hx]; exact (List.getElem?_eq_some_iff.1 hm).1) hm)

/-- The Ring as beginCount finds it. -/
theorem MsW.toRing (h : MsW w wx TB LR CK G n sent ns s (.slice (some ⟨MS, 0, none⟩) ms.length ms.length) req MS SE ms x) (hx : x = ms.length) (hlt : ∀ m ∈ ms, m < n) : Ring wx LR CK G MS n ms sent ns s req := by
  obtain ⟨c1, h1, _⟩ := h.mr
  obtain ⟨c2, h2, _⟩ := h.f.gg
  exact ⟨⟨_, h.f.lr, rfl, rfl, rfl, rfl, _, rfl⟩, h.f.ck, fun y m hm => ⟨hlt m (List.mem_of_getElem? hm), h.members hx y m hm⟩, h.f.logs rfl, (Array.getElem?_eq_some_iff.1 h1).1, (Array.getElem?_eq_some_iff.1 h2).1⟩
end

/-- The world behind beginCount. -/
structure EndW (w wz : World) (TB LR MS J MB n : Nat) (ms : List Nat) (sent : List Int) (i ns s bf : Int) (l : List (Int × Value)) : Prop where
  g : w.grownBy wz none
  tb : wz.heap[TB]? = some (.cells #[.int .u64 ns, .int .i64 s, .pointer none] 27 (0, 0))
  c12 : wz.cell? ⟨LR, 12, none⟩ = some (.slice (some ⟨MS, 0, none⟩) ms.length ms.length)
  c15 : wz.cell? ⟨LR, 15, none⟩ = some (.int .i64 bf)
  c27 : wz.cell? ⟨LR, 27, none⟩ = some (.pointer (some ⟨J, 0, none⟩))
  jc : wz.heap[J]? = some (.cells #[.int .i64 i, .int .u64 ns, .int .i64 s, .pointer none, .int .i64 bf, .int .i64 0, .map (some MB)] 87 (0, 0))
  mp : MapIs wz MB l
  ln : l.length = dn n ms ms.length
  ents : ∀ m ∈ ms, ∃ P, Bs.get (m : Int) l = some (.pointer (some ⟨P, 0, none⟩)) ∧ ∀ k, k < 10 → wz.cell? ⟨P, k, none⟩ = some (.int .i64 (aval sent m k))
  mm : ∀ x m : Nat, ms[x]? = some m → m < n ∧ wz.cell? ⟨MS, x, none⟩ = some (.int .i64 (m : Int))

theorem EndW.kept {w wz wy : World} {TB LR MS J MB n : Nat} {ms : List Nat} {sent : List Int} {i ns s bf : Int} {l : List (Int × Value)} (h : EndW w wz TB LR MS J MB n ms sent i ns s bf l) (hg : wz.grownBy wy none) : EndW w wy TB LR MS J MB n ms sent i ns s bf l := by
  have hb : ∀ b o, wz.heap[b]? = some o → wy.heap[b]? = some o := fun b o e => (hg.block b (Array.getElem?_eq_some_iff.1 e).1 (by simp)).trans e
  have hc : ∀ a v, wz.cell? a = some v → wy.cell? a = some v := fun a v e => cellG hg (.inl rfl) e
  exact ⟨grownBy.trans h.g hg, hb _ _ h.tb, hc _ _ h.c12, hc _ _ h.c15, hc _ _ h.c27, hb _ _ h.jc, h.mp.grown hg (by simp), h.ln, fun m hm => by obtain ⟨P, h1, h2⟩ := h.ents m hm; exact ⟨P, h1, fun k hk => hc _ _ (h2 k hk)⟩, fun x m hm => ⟨(h.mm x m hm).1, hc _ _ (h.mm x m hm).2⟩⟩

theorem EndW.made {w W wx : World} {TB LR CK G n : Nat} {sent : List Int} {ns s req : Int} {MS SE : Nat} {ms : List Nat} {J MB B : Nat} {i : Int} {l : List (Int × Value)}
    (h : MsW w W TB LR CK G n sent ns s (.slice (some ⟨MS, 0, none⟩) ms.length ms.length) req MS SE ms ms.length) (hlt : ∀ m ∈ ms, m < n) (hB : BegW W wx J MB B ms sent i ns s req ms.length l) :
    EndW w (wx.setCell ⟨LR, 27, none⟩ (.pointer (some ⟨J, 0, none⟩))) TB LR MS J MB n ms sent i ns s req l := by
  have hold : ∀ b o, W.heap[b]? = some o → wx.heap[b]? = some o := fun b o e => (hB.g.block b (Array.getElem?_eq_some_iff.1 e).1 (by simp)).trans e
  have hLR : LR < W.heap.size := (Array.getElem?_eq_some_iff.1 h.f.lr).1
  have lr := hold _ _ h.f.lr
  have hb : ∀ b, b ≠ LR → (wx.setCell ⟨LR, 27, none⟩ (.pointer (some ⟨J, 0, none⟩))).heap[b]? = wx.heap[b]? := fun b e => Below.heap_setCell _ _ _ _ e
  have lr' : (wx.setCell ⟨LR, 27, none⟩ (.pointer (some ⟨J, 0, none⟩))).heap[LR]? = some (.cells ((lrc CK G n (.slice (some ⟨MS, 0, none⟩) ms.length ms.length) req).setIfInBounds 27 (.pointer (some ⟨J, 0, none⟩))) 78 (0, 0)) := heap_setCell_same wx LR 27 _ 78 _ lr
  have hlo := hB.lo
  obtain ⟨c1, m1, _⟩ := h.mr
  have hMS := (h.f.ne m1 (by decide) (by decide) (by decide) (by decide)).2.1
  have hTB : TB ≠ LR := by intro e; have := h.f.tb; rw [e, h.f.lr] at this; simp at this
  have key : ∀ κ, κ ∈ l.map (·.1) ↔ ∃ m ∈ ms, κ = ((m : Nat) : Int) := fun κ => by rw [hB.keys κ, List.take_length]
  refine ⟨grownBy.setCell (grownBy.trans h.f.g hB.g) (.inr h.f.lo.2.1) _, (hb _ hTB).trans (hold _ _ h.f.tb), (cell_of_row _ LR 12 _ 78 (0, 0) lr').trans rfl, (cell_of_row _ LR 15 _ 78 (0, 0) lr').trans rfl, (cell_of_row _ LR 27 _ 78 (0, 0) lr').trans rfl,
    (hb _ (by omega)).trans hB.jc, hB.mp.setCell (by show LR ≠ MB; omega) _, ?_, fun m hm => ?_, fun x m hm => ⟨hlt m (List.mem_of_getElem? hm), ?_⟩⟩
  · have h1 := length_cnt (b := 0) (n := n) hB.nd (fun y hy => by obtain ⟨m, hm, e⟩ := (key y).1 hy; exact ⟨m, hlt m hm, by omega⟩)
    rw [List.length_map] at h1
    rw [← h1]
    unfold dn
    refine cnt_congr (fun y => ?_) _ _
    rw [key y, List.take_length, List.mem_map]
    exact ⟨fun ⟨m, h1, h2⟩ => ⟨m, h1, h2.symm⟩, fun ⟨m, h1, h2⟩ => ⟨m, h1, h2.symm⟩⟩
  · obtain ⟨v, hv⟩ := get_key ((key (m : Int)).2 ⟨m, hm, rfl⟩)
    obtain ⟨P, rfl, _, hc⟩ := hB.ents m v hv
    refine ⟨P, hv, fun k hk => ?_⟩
    have hP : P ≠ LR := by
      intro e
      have h0 := hc 0 (by omega)
      rw [e, cell_of_row wx LR 0 _ 78 (0, 0) lr] at h0
      simp [lrc] at h0
    exact (World.cell?_of_block (a := ⟨P, k, none⟩) (hb P hP)).trans (hc k hk)
  · exact (World.cell?_of_block (a := ⟨MS, x, none⟩) (hb MS hMS)).trans (cellG hB.g (.inl rfl) (h.members rfl x m hm))
end Go.Proofs.Ybulkazwu
