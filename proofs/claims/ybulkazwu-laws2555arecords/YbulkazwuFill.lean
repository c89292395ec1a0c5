import Derived.Test.YbulkazwuBegin
namespace Go.Proofs.Ybulkazwu
open Go.RowKit Go.Bs

/-! ### make -/
theorem info82 : (Yba.prog.info? 82).map (fun i => (i.zero.isSome, i.size, i.bytes)) = some (true, 21, 168) := by kernel_rfl
theorem info3 : (Yba.prog.info? 3).map (fun i => (i.zero, i.size, i.bytes)) = some (some (.int .i64 0), 1, 8) := by kernel_rfl
theorem info4 : (Yba.prog.info? 4).map (fun i => (i.zero, i.size, i.bytes)) = some (some (.bool false), 1, 1) := by kernel_rfl
theorem make49 (n : Nat) (hn : n ≤ 8) : ∃ M : Array Value, M.size = n * 21 ∧ ∀ W : World, (Instr.makeSlice 49 (.int .i64 (n : Int)) (.int .i64 (n : Int))).run Yba.prog W = .ok (.slice (some ⟨W.heap.size, 0, none⟩) n n) (W.alloc (.cells M 82)) := by
  obtain ⟨i, hi, hzz⟩ := Option.map_eq_some_iff.1 info82
  simp only [Prod.mk.injEq] at hzz
  obtain ⟨hz, hs, hb⟩ := hzz
  obtain ⟨z, hz⟩ := Option.isSome_iff_exists.1 hz
  refine ⟨madeCells z.cells (n * 21), size_madeCells _ _, fun W => ?_⟩
  have hr := run_make (P := Yba.prog) W 49 82 i z Yba.underlying49 hi hz .i64 .i64 n n (by omega) (Int.le_refl _) (by rw [hb]; omega) (by omega)
  simpa [hs] using hr
theorem make63 (n : Nat) (hn : n ≤ 1024) : ∃ M : Array Value, M.size = n ∧ ∀ W : World, (Instr.makeSlice 63 (.int .i64 (n : Int)) (.int .i64 (n : Int))).run Yba.prog W = .ok (.slice (some ⟨W.heap.size, 0, none⟩) n n) (W.alloc (.cells M 3)) := by
  obtain ⟨i, hi, hzz⟩ := Option.map_eq_some_iff.1 info3
  simp only [Prod.mk.injEq] at hzz
  obtain ⟨hz, hs, hb⟩ := hzz
  refine ⟨madeCells #[.int .i64 0] n, size_madeCells _ _, fun W => ?_⟩
  have hr := run_make (P := Yba.prog) W 63 3 i _ Yba.underlying63 hi hz .i64 .i64 n n (by omega) (Int.le_refl _) (by rw [hb]; omega) (by omega)
  simp only [Int.toNat_natCast, hs, Nat.mul_one] at hr
  exact hr
theorem make73 (n : Nat) (hn : n ≤ 8) : ∃ M : Array Value, (M.size = n ∧ ∀ i, i < n → M[i]? = some (.bool false)) ∧ ∀ W : World, (Instr.makeSlice 73 (.int .i64 (n : Int)) (.int .i64 (n : Int))).run Yba.prog W = .ok (.slice (some ⟨W.heap.size, 0, none⟩) n n) (W.alloc (.cells M 4)) := by
  obtain ⟨i, hi, hzz⟩ := Option.map_eq_some_iff.1 info4
  simp only [Prod.mk.injEq] at hzz
  obtain ⟨hz, hs, hb⟩ := hzz
  refine ⟨madeCells #[.bool false] n, ⟨size_madeCells _ _, fun i hi => by simp [madeCells, hi, Nat.mod_one]⟩, fun W => ?_⟩
  have hr := run_make (P := Yba.prog) W 73 4 i _ Yba.underlying73 hi hz .i64 .i64 n n (by omega) (Int.le_refl _) (by rw [hb]; omega) (by omega)
  simp only [Int.toNat_natCast, hs, Nat.mul_one] at hr
  exact hr

theorem new_at {w : World} {b : Nat} {o : Obj} (h : b = w.heap.size) : (w.alloc o).heap[b]? = some o := by subst h; exact heap_alloc_new w o
theorem old_at {w : World} {b : Nat} {o o' : Obj} (h : w.heap[b]? = some o) : (w.alloc o').heap[b]? = some o := ((World.grownBy_alloc w o' none).block b (Array.getElem?_eq_some_iff.1 h).1 (by simp)).trans h
/-- The Ring's 28 cells. -/
def lrc (ck g n : Nat) (mem : Value) (req : Int) : Array Value :=
  #[.pointer (some ⟨ck, 0, none⟩), .int .i64 0, .int .u64 0, .int .u64 0, .int .u64 0, .int .i64 0, .int .i64 0, .nilIface, .nilFunc, .slice none 0 0, .map none, .map none, mem, .pointer none, .nilIface, .int .i64 req, .int .i64 0,
    .slice (some ⟨g, 0, none⟩) n n, .int .i64 0, .pointer none, .slice none 0 0, .slice none 0 0, .slice none 0 0, .map none, .int .i32 0, .int .u32 0, .map none, .pointer none]

/-- The world of the law's Ring: the rounds filled up to round j, cell t. -/
structure Fill (w wx : World) (TB LR CK G n : Nat) (sent : List Int) (ns s : Int) (mem : Value) (req : Int) (j t : Nat) : Prop where
  g : w.grownBy wx none
  tb : wx.heap[TB]? = some (.cells #[.int .u64 ns, .int .i64 s, .pointer none] 27 (0, 0))
  lr : wx.heap[LR]? = some (.cells (lrc CK G n mem req) 78 (0, 0))
  ck : ∃ cs, wx.heap[CK]? = some (.cells cs 48 (0, 0)) ∧ cs[0]? = some (.int .i32 0) ∧ cs[2]? = some (.int .u64 ns) ∧ cs[3]? = some (.int .i64 s) ∧ cs[4]? = some (.pointer none)
  gg : ∃ cs, wx.heap[G]? = some (.cells cs 82 (0, 0)) ∧ cs.size = n * 21 ∧ ∀ j' t', j' < n → t' < 20 → (j' < j ∨ (j' = j ∧ t' < t)) → cs[j' * 21 + 1 + t']? = some (.int .i64 (aval sent j' t'))
  lo : w.heap.size ≤ TB ∧ w.heap.size ≤ LR ∧ w.heap.size ≤ CK ∧ w.heap.size ≤ G

theorem fillA {w w1 : World} (hg : w.grownBy w1 none) {M : Array Value} {n : Nat} (hM : M.size = n * 21) (sent : List Int) (ns s : Int) {c : Array Value} (hc : c[0]? = some (.int .i32 0) ∧ c[2]? = some (.int .u64 ns) ∧ c[3]? = some (.int .i64 s) ∧ c[4]? = some (.pointer none)) :
    Fill w ((((w1.alloc (.cells #[.int .u64 ns, .int .i64 s, .pointer none] 27)).alloc (.cells c 48)).alloc (.cells M 82)).alloc (.cells (lrc (w1.heap.size + 1) (w1.heap.size + 1 + 1) n (.slice none 0 0) 0) 78)).drew
      w1.heap.size (w1.heap.size + 1 + 1 + 1) (w1.heap.size + 1) (w1.heap.size + 1 + 1) n sent ns s (.slice none 0 0) 0 0 0 := by
  have hs := hg.size
  exact ⟨grownBy.drew (grownBy.alloc (grownBy.alloc (grownBy.alloc (grownBy.alloc hg _) _) _) _), old_at (old_at (old_at (new_at rfl))), new_at (by simp), ⟨c, old_at (old_at (new_at (by simp))), hc⟩, ⟨M, old_at (new_at (by simp)), hM, fun j' t' _ _ h => by omega⟩, by omega⟩
theorem fillB {w w1 : World} (hg : w.grownBy w1 none) {M : Array Value} {n : Nat} (hM : M.size = n * 21) (sent : List Int) (ns s : Int) {c : Array Value} (hc : c[0]? = some (.int .i32 0) ∧ c[2]? = some (.int .u64 ns) ∧ c[3]? = some (.int .i64 s) ∧ c[4]? = some (.pointer none)) :
    Fill w ((((w1.alloc (.cells #[.int .u64 ns, .int .i64 s, .pointer none] 27)).alloc (.cells M 82)).alloc (.cells c 48)).alloc (.cells (lrc (w1.heap.size + 1 + 1) (w1.heap.size + 1) n (.slice none 0 0) 0) 78)).drew
      w1.heap.size (w1.heap.size + 1 + 1 + 1) (w1.heap.size + 1 + 1) (w1.heap.size + 1) n sent ns s (.slice none 0 0) 0 0 0 := by
  have hs := hg.size
  exact ⟨grownBy.drew (grownBy.alloc (grownBy.alloc (grownBy.alloc (grownBy.alloc hg _) _) _) _), old_at (old_at (old_at (new_at rfl))), new_at (by simp), ⟨c, old_at (new_at (by simp)), hc⟩, ⟨M, old_at (old_at (new_at (by simp))), hM, fun j' t' _ _ h => by omega⟩, by omega⟩

section
variable {w wx : World} {TB LR CK G n : Nat} {sent : List Int} {ns s : Int} {mem : Value} {req : Int} {j t : Nat}

theorem Fill.kept {wy : World} (h : Fill w wx TB LR CK G n sent ns s mem req j t) (hg : wx.grownBy wy none) : Fill w wy TB LR CK G n sent ns s mem req j t := by
  have hb : ∀ b o, wx.heap[b]? = some o → wy.heap[b]? = some o := fun b o e => (hg.block b (Array.getElem?_eq_some_iff.1 e).1 (by simp)).trans e
  obtain ⟨c1, h1, h2⟩ := h.ck
  obtain ⟨c2, h3, h4⟩ := h.gg
  exact ⟨grownBy.trans h.g hg, hb _ _ h.tb, hb _ _ h.lr, ⟨c1, hb _ _ h1, h2⟩, ⟨c2, hb _ _ h3, h4⟩, h.lo⟩

/-- A write to a block that is none of the Ring's. -/
theorem Fill.other (h : Fill w wx TB LR CK G n sent ns s mem req j t) {a : Addr} (ha : w.heap.size ≤ a.block) (hne : a.block ≠ TB ∧ a.block ≠ LR ∧ a.block ≠ CK ∧ a.block ≠ G) (u : Value) : Fill w (wx.setCell a u) TB LR CK G n sent ns s mem req j t := by
  have hb : ∀ b, b ≠ a.block → (wx.setCell a u).heap[b]? = wx.heap[b]? := fun b e => Below.heap_setCell _ _ _ _ e
  obtain ⟨c1, h1, h2⟩ := h.ck
  obtain ⟨c2, h3, h4⟩ := h.gg
  exact ⟨grownBy.setCell h.g (.inr ha) _, (hb _ (Ne.symm hne.1)).trans h.tb, (hb _ (Ne.symm hne.2.1)).trans h.lr, ⟨c1, (hb _ (Ne.symm hne.2.2.1)).trans h1, h2⟩, ⟨c2, (hb _ (Ne.symm hne.2.2.2)).trans h3, h4⟩, h.lo⟩

theorem Fill.gcell (h : Fill w wx TB LR CK G n sent ns s mem req j t) {o : Nat} (ho : o < n * 21) : (∃ v, wx.cell? ⟨G, o, none⟩ = some v) ∧ wx.frozen? ⟨G, o, none⟩ = false := by
  obtain ⟨cs, hh, hs, _⟩ := h.gg
  exact ⟨⟨cs[o]'(by omega), (cell_of_row wx G o cs 82 (0, 0) hh).trans (Array.getElem?_eq_getElem (by omega))⟩, frozen_of_row wx G o cs 82 hh⟩

theorem Fill.set (h : Fill w wx TB LR CK G n sent ns s mem req j t) (hj : j < n) (ht : t < 20) : Fill w (wx.setCell ⟨G, j * 21 + 1 + t, none⟩ (.int .i64 (aval sent j t))) TB LR CK G n sent ns s mem req j (t + 1) := by
  have hb : ∀ b, b ≠ G → (wx.setCell ⟨G, j * 21 + 1 + t, none⟩ (.int .i64 (aval sent j t))).heap[b]? = wx.heap[b]? := fun b e => Below.heap_setCell _ _ _ _ e
  obtain ⟨c1, h1, h2⟩ := h.ck
  obtain ⟨cs, h3, h4, h5⟩ := h.gg
  refine ⟨grownBy.setCell h.g (.inr h.lo.2.2.2) _, (hb _ ?_).trans h.tb, (hb _ ?_).trans h.lr, ⟨c1, (hb _ ?_).trans h1, h2⟩, ⟨_, heap_setCell_same wx G _ _ 82 _ h3, by simp [h4], fun j' t' hj' ht' hlt => ?_⟩, h.lo⟩
  · intro e; have := h.tb; rw [e, h3] at this; simp at this
  · intro e; have := h.lr; rw [e, h3] at this; simp at this
  · intro e; rw [e, h3] at h1; simp at h1
  · by_cases e : j * 21 + 1 + t = j' * 21 + 1 + t'
    · obtain rfl : j = j' := by omega
      obtain rfl : t = t' := by omega
      have : j * 21 + 1 + t < cs.size := by omega
      simp [this]
    · rw [Array.getElem?_setIfInBounds, if_neg e]
      exact h5 j' t' hj' ht' (by omega)

theorem Fill.next (h : Fill w wx TB LR CK G n sent ns s mem req j t) (ht : t = 20) : Fill w wx TB LR CK G n sent ns s mem req (j + 1) 0 := by
  obtain ⟨cs, h3, h4, h5⟩ := h.gg
  exact ⟨h.g, h.tb, h.lr, h.ck, ⟨cs, h3, h4, fun j' t' hj' ht' hlt => h5 j' t' hj' ht' (by omega)⟩, h.lo⟩

theorem Fill.logs (h : Fill w wx TB LR CK G n sent ns s mem req j t) (hj : j = n) : Logs wx G n sent := by
  obtain ⟨cs, h3, h4, h5⟩ := h.gg
  exact fun j' t' hj' ht' => (cell_of_row wx G _ cs 82 (0, 0) h3).trans (h5 j' t' hj' ht' (by omega))

theorem Fill.ne (h : Fill w wx TB LR CK G n sent ns s mem req j t) {b : Nat} {cs : Array Value} {ty : TypeId} (hh : wx.heap[b]? = some (.cells cs ty (0, 0))) (h1 : ty ≠ 27) (h2 : ty ≠ 78) (h3 : ty ≠ 48) (h4 : ty ≠ 82) : b ≠ TB ∧ b ≠ LR ∧ b ≠ CK ∧ b ≠ G := by
  obtain ⟨c1, k1, _⟩ := h.ck
  obtain ⟨c2, k2, _⟩ := h.gg
  refine ⟨fun e => ?_, fun e => ?_, fun e => ?_, fun e => ?_⟩
  · have := h.tb; rw [← e, hh] at this; simp at this; exact h1 this.2
  · have := h.lr; rw [← e, hh] at this; simp at this; exact h2 this.2
  · rw [← e, hh] at k1; simp at k1; exact h3 k1.2
  · rw [← e, hh] at k2; simp at k2; exact h4 k2.2

/-- A store to the Ring's own cells. -/
theorem Fill.ring (h : Fill w wx TB LR CK G n sent ns s mem req j t) {o : Nat} {u mem' : Value} {req' : Int} (he : (lrc CK G n mem req).setIfInBounds o u = lrc CK G n mem' req') : Fill w (wx.setCell ⟨LR, o, none⟩ u) TB LR CK G n sent ns s mem' req' j t := by
  have hb : ∀ b, b ≠ LR → (wx.setCell ⟨LR, o, none⟩ u).heap[b]? = wx.heap[b]? := fun b e => Below.heap_setCell _ _ _ _ e
  obtain ⟨c1, h1, h2⟩ := h.ck
  obtain ⟨cs, h3, h4, h5⟩ := h.gg
  refine ⟨grownBy.setCell h.g (.inr h.lo.2.1) _, (hb _ ?_).trans h.tb, ?_, ⟨c1, (hb _ ?_).trans h1, h2⟩, ⟨cs, (hb _ ?_).trans h3, h4, h5⟩, h.lo⟩
  · intro e; have := h.tb; rw [e, h.lr] at this; simp at this
  · rw [heap_setCell_same wx LR o _ 78 _ h.lr, he]
  · intro e; rw [e, h.lr] at h1; simp at h1
  · intro e; rw [e, h.lr] at h3; simp at h3
end
end Go.Proofs.Ybulkazwu
