import Derived.Test.YbulkazqiRows
import Derived.Test.YbulkazqiBase
import Derived.WalkLawsBesides
import Derived.Laws.CopyOwn
import Derived.Laws.Pointers
import Derived.Deep.AppendLies
import Derived.BigQuiet
namespace Go.Proofs.Ybulkazqi
open Go.RowKit Go.Bs

def strs (ss : List ByteArray) : List Value := ss.map Value.string
theorem strs_length (ss : List ByteArray) : (strs ss).length = ss.length := by simp [strs]
theorem strs_get (ss : List ByteArray) (i : Nat) (h : i < ss.length) : (strs ss)[i]? = some (.string ss[i]) := by simp [strs, h]
theorem strs_append (a b : List ByteArray) : strs (a ++ b) = strs a ++ strs b := by simp [strs]
theorem strs_one (ss : List ByteArray) : ∀ u ∈ strs ss, u.oneCell' = true := by
  intro u hu
  obtain ⟨_, _, rfl⟩ := List.mem_map.1 hu
  rfl

theorem Yba.info9 : (Yba.prog.info? 9).map (fun i => (i.zero, i.size, i.bytes)) = some (some (.string ByteArray.empty), 1, 16) := by kernel_rfl
theorem Yba.size9 : (Yba.prog.info? 9).map (·.size) = some 1 := by kernel_rfl

/-- 'copy(dst, src)', dst a row of the call's own, src as long as dst. -/
theorem run_copy_full {P : Program} (w : World) (base : Nat) (t ty e : TypeId) (ht : P.underlying t = some (.slice e)) (hs : (P.info? e).map (·.size) = some 1) (g n cap : Nat) (xs : List Value) (hown : w.ownsRow base e 1 (.slice (some ⟨g, 0, none⟩) n cap) n xs)
    {ok : Nat → Prop} (u : Value) (cs : List Value) (hu : Sl ok w u cs) (hn : cs.length = n) (h1 : ∀ v ∈ cs, v.oneCell' = true) :
    ∃ w', (Builtin.copy_ #[t, t] ty #[.slice (some ⟨g, 0, none⟩) n cap, u]).run P w = .ok (goInt n) w' ∧ w'.ownsRow base e 1 (.slice (some ⟨g, 0, none⟩) n cap) n cs ∧ w.grownBy w' (some g) := by
  obtain ⟨a, cap', rfl, h2, h3, h4, h5⟩ := hu
  by_cases h0 : cs.length = 0
  · have hcs : cs = [] := List.eq_nil_of_length_eq_zero h0
    subst hcs
    simp at hn
    subst hn
    have hx : xs = [] := List.eq_nil_of_length_eq_zero (by simpa using hown.1)
    subst hx
    exact ⟨w, run_copy_none (P := P) w t t ty e _ _ 0 cap 0 cap' ht hs (by simp), hown, World.grownBy.refl _ _⟩
  · obtain ⟨b, off, rfl, _, _, hc⟩ := h5 (fun e => h0 (by simp [e]))
    rcases hown.2 with ⟨h', _⟩ | ⟨g', cap'', cur, h', hb, hg, hnc, hcm, hsz, htake⟩
    · simp at h'
    · simp only [Value.slice.injEq, Option.some.injEq, Addr.mk.injEq, and_true, true_and] at h'
      obtain ⟨rfl, rfl⟩ := h'
      have hr := run_copy_row (P := P) w t t ty e g 0 n cap ⟨b, off, none⟩ cs.length cap' cur e cs ht hs hg (by rw [hn]; simp) (fun j v hj => by rw [Addr.add_lit]; exact hc j v hj) (by omega) h1
      rw [hn] at hr ⊢
      refine ⟨_, hr, ⟨by omega, .inr ⟨g, cap, _, rfl, hb, setRow_heap w g cur _ e _ hg, hnc, hcm, ?_, ?_⟩⟩, ⟨rfl, rfl, rfl, by simp, fun k _ hk => setRow_other w g k _ (fun e => hk (by simp [e]))⟩⟩
      · simp; omega
      · simp [hn]

set_option maxRecDepth 100000 in
set_option maxHeartbeats 1600000 in
/-- 'zzs2543acopy': nil of nil; else a new row with the same strings. -/
theorem copy_any (ok : Nat → Prop) (v : Value) (ss : List ByteArray) (w : World) (h : Sl ok w v (strs ss)) (hl : ss.length ≤ 1024) :
    Calls Yba.prog 7 #[v] w fun e w' => ∃ v', e = .returned v' ∧ w'.ownsRow w.heap.size 9 1 v' ss.length (strs ss) ∧ w.grownBy w' none := by
  obtain ⟨i0, hi, hz0, hz1, hz2⟩ := info_parts Yba.info9
  obtain ⟨a, cap, rfl, hcap, hmax, hnil, hcs⟩ := h
  rw [strs_length] at hcap ⊢
  unfold maxLen at hmax
  have hnq := fun (w : World) (a : Option Addr) (n c : Nat) => Lib.run_eql_slice_nil (P := Yba.prog) w 22 9 a n c 0 0 Yba.underlying22
  cases a with
  | none =>
    obtain rfl := hnil rfl
    obtain rfl : ss = [] := List.eq_nil_of_length_eq_zero (by omega)
    go_enter Yba.func7, Yba.ntmps7
    go_wp2
    go_ret
    exact ⟨_, rfl, World.ownsRow_nil _ _ _ _, World.grownBy.refl _ _⟩
  | some ad =>
    go_enter Yba.func7, Yba.ntmps7
    go_wp2_with (at_make; refine wpList_make_full _ rfl _ _ 22 rfl w.heap.size 9 i0 _ 1 Yba.underlying22 hi hz0 hz1 _ _ _ _ ss.length rfl rfl rfl rfl ?b2 ?b3 (Nat.le_refl _) ?_)
    case b2 => rw [hz2]; omega
    case b3 => unfold maxLen; omega
    intro w0 hown0 hgrow0
    obtain ⟨w1, hcp, hown1, hg1⟩ := run_copy_full (P := Yba.prog) w0 w.heap.size 22 3 9 Yba.underlying22 Yba.size9 w.heap.size ss.length ss.length _ hown0 (.slice (some ad) ss.length cap) (strs ss) (by
      have : Sl ok w (.slice (some ad) ss.length cap) (strs ss) := ⟨some ad, cap, by rw [strs_length], by rw [strs_length]; exact hcap, by unfold maxLen; exact hmax, hnil, hcs⟩
      exact this.grown hgrow0 (fun _ _ => by simp)) (strs_length _) (strs_one _)
    go_wp2
    go_ret
    exact ⟨_, rfl, hown1, grownBy.inner hgrow0 hg1 (fun i hi => by cases hi; exact Nat.le_refl _)⟩
theorem owns_form {w : World} {B : Nat} {e : TypeId} {v : Value} {n : Nat} {xs : List Value} (h : w.ownsRow B e 1 v n xs) : ∃ a c, v = .slice a n c := by
  rcases h.2 with ⟨rfl, rfl⟩ | ⟨g, cap, cur, rfl, _⟩
  · exact ⟨_, _, rfl⟩
  · exact ⟨_, _, rfl⟩

set_option maxRecDepth 100000 in
set_option maxHeartbeats 1600000 in
/-- 'within' of the misfit at M: the very same error; the part at the path's end. -/
theorem within_any (M n base : Nat) (pv : Value) (xs : List Value) (s : ByteArray) (w : World) (m0 : w.cell? ⟨M, 0, none⟩ = some pv) (z0 : w.frozen? ⟨M, 0, none⟩ = false)
    (hown : w.ownsRow base 9 1 pv n xs) (hne : pv.ownBlock ≠ some M) (hbase : base ≤ w.heap.size) (hn : n ≤ 4096) :
    Calls Yba.prog 8 #[.iface 23 (.pointer (some ⟨M, 0, none⟩)), .string s] w fun e w' => ∃ pv', e = .returned (.iface 23 (.pointer (some ⟨M, 0, none⟩))) ∧ w'.cell? ⟨M, 0, none⟩ = some pv' ∧ w'.cell? ⟨M, 1, none⟩ = w.cell? ⟨M, 1, none⟩ ∧
      w'.frozen? ⟨M, 0, none⟩ = false ∧ w'.ownsRow base 9 1 pv' (n + 1) (xs ++ [.string s]) ∧ pv'.ownBlock ≠ some M ∧ ∀ B, B ≤ base → B ≤ M → Below B w w' := by
  obtain ⟨i0, hi, hz0, hz1, hz2⟩ := info_parts Yba.info9
  have hM := World.block_lt_of_cell? _ _ m0
  have hM' : M < w.heap.size := hM
  obtain ⟨pa, pc, rfl⟩ := owns_form hown
  have hta : ∀ w : World, (Instr.typeAssert (.iface 23 (.pointer (some ⟨M, 0, none⟩))) 26 23 true).run Yba.prog w = .ok (.tuple #[.pointer (some ⟨M, 0, none⟩), .bool true]) w := fun _ => by kernel_rfl
  go_enter Yba.func8, Yba.ntmps8
  go_wp2_with (at_builtin; refine wpList_append_lies _ rfl _ _ 22 rfl base 9 i0 _ 1 16 Yba.underlying22 hi hz0 hz1 hz2 rfl (by omega) _ n xs rfl (hown.alloc _) ⟨w.heap.size, 0, none⟩ 1 1 [_] rfl rfl (news1 _ _ _) (by simp [Value.oneCell']) (by omega) (by unfold maxLen; omega) (by omega) (by simp; omega) (w.heap.size + 1) (by simp) ?_)
  intro g cap' w2 hown2 hgrow2 hat2 hlt2
  have k0 : w2.cell? ⟨M, 0, none⟩ = some (.slice pa n pc) := cellG hgrow2 (.inr hne) (cellG (World.grownBy_alloc _ _ none) (.inl rfl) m0)
  have g0 : w2.frozen? ⟨M, 0, none⟩ = false := frozG hgrow2 (.inr hne) (by simp; omega) (frozG (World.grownBy_alloc _ _ none) (.inl rfl) hM z0)
  have k1 : w2.cell? ⟨M, 1, none⟩ = w.cell? ⟨M, 1, none⟩ := by
    rw [World.cell?_of_block (w := w) (w' := w2) (a := ⟨M, 1, none⟩)]
    exact (hgrow2.block M (by simp; omega) (Ne.symm hne)).trans (Below.heap_alloc _ _ _ hM')
  have hgM : g ≠ M := by
    rintro rfl
    rcases hat2 with h | h
    · exact hne h
    · omega
  have HB : ∀ k, (Value.slice pa n pc).ownBlock = some k → base ≤ k := fun k hk => (hown.lt k hk).1
  clear m0 hown
  go_wp2
  go_ret
  refine ⟨_, rfl, World.cell?_setCell_same _ _ _ k0, ?_, by simpa using g0, ?_, by simpa [Value.ownBlock] using hgM, fun B h1 h2 => ?_⟩
  · rw [World.cell?_setCell_other _ ⟨M, 0, none⟩ ⟨M, 1, none⟩ _ (by simp)]; exact k1
  · exact hown2.kept (row := some M) (grownBy.setCell (World.grownBy.refl _ _) (.inl rfl) _) (.inr (by simpa [Value.ownBlock] using hgM))
  · have hlt : ∀ k, (Value.slice pa n pc).ownBlock = some k → B ≤ k := fun k hk => Nat.le_trans h1 (HB k hk)
    exact (((Below.refl B w).alloc (by omega) _).grown hgrow2 (by simp; omega) hlt).setCell h2 _
end Go.Proofs.Ybulkazqi
