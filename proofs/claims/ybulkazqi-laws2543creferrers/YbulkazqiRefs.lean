import Derived.Test.YbulkazqiRows
import Derived.Test.YbulkazqiMaps
import Derived.Test.YbulkazqiRange
import Derived.Shelf.RegionOpen
import Derived.OwnWalkIn
import Derived.TacticsInMore
import Derived.LoopNIn
import Derived.LoopIn
namespace Go.Proofs.Ybulkazqi
open Go.RowKit Go.Shelf Go.Bs

attribute [local go_sem] Oper.semAt_some

/-- What a type's kind, element, key and fields yield. -/
def yields (kd el ky : Int) (fs : List Int) : List Int := if kd = 2 then [el] else if kd = 4 then [ky, el] else if kd = 3 then fs else []

/-- THE *Type AT BLOCK T. -/
structure TypeIs (W : World) (T FB : Nat) (kd el ky : Int) (fs : List Int) (me : Int) : Prop where
  id : W.cell? ⟨T, 2, none⟩ = some (.int .i64 me)
  c0 : W.cell? ⟨T, 0, none⟩ = some (.int .u8 kd)
  c4 : W.cell? ⟨T, 4, none⟩ = some (.int .i64 el)
  c5 : W.cell? ⟨T, 5, none⟩ = some (.int .i64 ky)
  c7 : kd = 3 → W.cell? ⟨T, 7, none⟩ = some (.slice (some ⟨FB, 0, none⟩) fs.length fs.length)
  hf : kd = 3 → ∀ i, i < fs.length → W.cell? ⟨FB, i * 2, none⟩ = some (.string ByteArray.empty) ∧ W.cell? ⟨FB, i * 2 + 1, none⟩ = some (.int .i64 (fs.getD i 0))

set_option maxRecDepth 100000 in
set_option maxHeartbeats 1000000 in
theorem refs_gives (n : Nat) (hn : 1 ≤ n) (T FB : Nat) (kd el ky : Int) (fs : List Int) (me : Int) (hk : kd = 2 ∨ kd = 4 ∨ kd = 3 ∨ kd = 5) (hfl : fs.length ≤ 4096) :
    Gives Fence.wide n Yba.prog 15 (.pointer (some ⟨T, 0, none⟩)) (Value.int .i64) (yields kd el ky fs) (fun W => TypeIs W T FB kd el ky fs me) := by
  intro l J Jx W hC hJn hY h0
  have hT := hC _ _ h0
  have c0 := hT.c0
  have c4 := hT.c4
  have c5 := hT.c5
  rcases hk with rfl | rfl | rfl | rfl
  · obtain ⟨fn, tmps, assign, body, hy, hR⟩ := hY [] el W h0 (List.prefix_rfl)
    clear hC hY hJn hT
    refine callsIn_of_wp Yba.func15 rfl trivial ?_ rfl
    simp only [Yba.ntmps15, List.size_toArray, List.length_cons, List.length_nil, Nat.reduceAdd, Nat.reduceSub, Array.replicate_succ, Array.replicate_zero, List.push_toArray, List.append_toArray, List.nil_append, List.cons_append]
    gi_wp2
    refine hR.mono ?_
    rintro e W' (⟨rfl, hJ⟩ | ⟨rfl, hJ⟩)
    · gi_wp2
      go_end0
      exact ⟨⟨_, rfl⟩, .inl hJ⟩
    · gi_wp2
      go_end0
      exact ⟨⟨_, rfl⟩, .inr ⟨[el], List.prefix_rfl, hJ⟩⟩
  · obtain ⟨fn, tmps, assign, body, hy, hR⟩ := hY [] ky W h0 ⟨[el], rfl⟩
    refine callsIn_of_wp Yba.func15 rfl trivial ?_ rfl
    simp only [Yba.ntmps15, List.size_toArray, List.length_cons, List.length_nil, Nat.reduceAdd, Nat.reduceSub, Array.replicate_succ, Array.replicate_zero, List.push_toArray, List.append_toArray, List.nil_append, List.cons_append]
    gi_wp2
    refine hR.mono ?_
    rintro e W' (⟨rfl, hJ⟩ | ⟨rfl, hJ⟩)
    · have d4 := (hC _ _ hJ).c4
      obtain ⟨fn2, tmps2, assign2, body2, hy2, hR2⟩ := hY [ky] el W' hJ (List.prefix_rfl)
      gi_wp2
      refine hR2.mono ?_
      rintro e W2 (⟨rfl, hJ2⟩ | ⟨rfl, hJ2⟩)
      · gi_wp2
        go_end0
        exact ⟨⟨_, rfl⟩, .inl hJ2⟩
      · gi_wp2
        go_end0
        exact ⟨⟨_, rfl⟩, .inr ⟨[ky, el], List.prefix_rfl, hJ2⟩⟩
    · gi_wp2
      go_end0
      exact ⟨⟨_, rfl⟩, .inr ⟨[ky], ⟨[el], rfl⟩, hJ⟩⟩
  · have c7 := hT.c7 rfl
    have hxs : yields 3 el ky fs = fs := by simp [yields]
    rw [hxs] at hY ⊢
    refine callsIn_of_wp Yba.func15 rfl trivial ?_ rfl
    simp only [Yba.ntmps15, List.size_toArray, List.length_cons, List.length_nil, Nat.reduceAdd, Nat.reduceSub, Array.replicate_succ, Array.replicate_zero, List.push_toArray, List.append_toArray, List.nil_append, List.cons_append]
    gi_wp2
    gi_loopw [40] (fun si wr => ∃ k : Nat, k ≤ fs.length ∧ si = .int .i64 k ∧ J (fs.take k) wr) (fun si _ => fs.length - (intOf si).toNat)
    case atStart => exact ⟨0, Nat.zero_le _, rfl, h0⟩
    case round =>
      obtain ⟨k, hkl, rfl, hJ⟩ := hrel
      by_cases hlt : k < fs.length
      · have hTr := hC _ _ hJ
        obtain ⟨x, HX⟩ : ∃ x, Hid (x = fs[k]) := ⟨fs[k], (rfl : fs[k] = fs[k])⟩
        have hf0 := (hTr.hf rfl k hlt).1
        have hf1 : wr.cell? ⟨FB, k * 2 + 1, none⟩ = some (.int .i64 x) := by have := (hTr.hf rfl k hlt).2; rw [HX.out]; simpa [hlt] using this
        have HT : Hid (fs.take (k + 1) = fs.take k ++ [x]) := by rw [HX.out]; exact List.take_succ_eq_append_getElem hlt
        have hJa := hJn _ _ _ hJ (World.grownBy_alloc wr (.cells #[.string ByteArray.empty, .int .i64 x] 84) none)
        obtain ⟨fn, tmps, assign, body, hy, hR⟩ := hY (fs.take k) x _ hJa (by rw [← HT.out]; exact List.take_prefix _ _)
        clear hC hT hTr c0 c4 c5 c7 hY hJn
        gi_wp2
        refine hR.mono ?_
        rintro e W' (⟨rfl, hJ2⟩ | ⟨rfl, hJ2⟩)
        · gi_wp2
          go_roundw
          case rel => exact ⟨k + 1, by omega, by go_num, by rw [HT.out]; exact hJ2⟩
          case measure => simp [intOf]; omega
        · gi_wp2
          first | go_end0 | refine bodyPost_ret (results_none rfl _ _ _) rfl ?_
          exact ⟨⟨_, rfl⟩, .inr ⟨fs.take k ++ [x], by rw [← HT.out]; exact List.take_prefix _ _, hJ2⟩⟩
      · have hkn : k = fs.length := by omega
        subst hkn
        rw [List.take_of_length_le (Nat.le_refl _)] at hJ
        gi_wp2
        first | go_end0 | refine bodyPost_ret (results_none rfl _ _ _) rfl ?_
        exact ⟨⟨_, rfl⟩, .inl hJ⟩
  · have hxs : yields 5 el ky fs = [] := by simp [yields]
    rw [hxs]
    clear hC hY hJn hT
    refine callsIn_of_wp Yba.func15 rfl trivial ?_ rfl
    simp only [Yba.ntmps15, List.size_toArray, List.length_cons, List.length_nil, Nat.reduceAdd, Nat.reduceSub, Array.replicate_succ, Array.replicate_zero, List.push_toArray, List.append_toArray, List.nil_append, List.cons_append]
    gi_wp2
    go_end0
    exact ⟨⟨_, rfl⟩, .inl h0⟩
end Go.Proofs.Ybulkazqi
