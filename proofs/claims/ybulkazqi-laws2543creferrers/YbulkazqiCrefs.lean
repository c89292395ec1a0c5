import Derived.Test.YbulkazqiDefs
namespace Go.Proofs.Ybulkazqi
open Go.RowKit Go.Shelf Go.Bs

/-- The result of 'zzs2543crefs'. -/
def RefsMade (w w' : World) (v : Value) (xs : List Int) : Prop := w'.ownsRow w.heap.size 48 1 v xs.length (ints xs) ∧ w.grownBy w' none

theorem refsMade_lit (w : World) (o1 : Obj) (cs : Array Value) (xs : List Int) (hx : cs.toList = ints xs) (hm : xs.length ≤ maxLen) : RefsMade w ((w.alloc o1).alloc (.cells cs 48)) (.slice (some ⟨w.heap.size + 1, 0, none⟩) xs.length xs.length) xs := by
  refine ⟨?_, (two_new w _ _).2⟩
  have hs : cs.size = xs.length * 1 := by
    have := congrArg List.length hx
    simpa [ints] using this
  have := World.ownsRow_lit (base := w.heap.size) (e := 48) (size := 1) (w.alloc o1) cs xs.length (by simp) hm hs
  rw [hx] at this
  simpa using this


set_option maxRecDepth 100000 in
set_option maxHeartbeats 2000000 in
theorem crefs0 (n : Nat) (hn : n ≤ 256) (k : Int) (hk0 : 0 ≤ k) (rs : List Int) (hrs : ∀ r ∈ rs, 0 ≤ r ∧ r ≤ 255) (hl : rs.length ≤ 256) (rv : Value) (w : World) (hS : Sl (fun _ => True) w rv (u8s rs)) (hk : k % 4 = 0) :
    Calls Yba.prog 11 #[.agg #[.int .u8 k, rv], .int .i64 n] w fun e w' => ∃ v, e = .returned v ∧ RefsMade w w' v (refsOf n k rs) := by
  have ht : k.tmod 4 = 0 := by rw [Int.tmod_eq_emod_of_nonneg hk0]; exact hk
  have HR : Hid (refsOf n k rs = [rAt n rs 0]) := by show refsOf n k rs = [rAt n rs 0]; simp [refsOf, yields, kdOf, elOf, hk]
  clear hk
  obtain ⟨a, cap, rfl, hcap, hmax, hnil, hcs⟩ := hS
  rw [u8s_length] at hcap ⊢
  cases rs with
  | nil =>
    clear hcs
    go_enter Yba.func11, Yba.ntmps11
    go_wp2
    go_ret
    exact ⟨_, rfl, by rw [HR.out]; exact refsMade_lit w _ _ [2] rfl (by unfold maxLen; simp)⟩
  | cons r rs =>
    obtain ⟨b, off, rfl, _, hb, hc⟩ := hcs (by simp [u8s])
    have hc0 := hc 0 _ (u8s_get (r :: rs) 0 (by simp))
    simp at hc0
    obtain ⟨hr0, hr1⟩ := hrs r (by simp)
    clear hc hcs hrs
    obtain ⟨m, Hm⟩ : ∃ m, Hid (rs.length = m) := ⟨_, (rfl : rs.length = rs.length)⟩
    simp only [List.length_cons] at hl hcap ⊢
    rw [Hm.out] at hl hcap ⊢
    go_enter Yba.func11, Yba.ntmps11
    go_wp2_with (go_at_call 14; refine (cref_any n hn _ ?_ ?_ _).mono ?_; assumption; assumption; rintro e w' ⟨rfl, rfl⟩)
    go_ret
    exact ⟨_, rfl, by rw [HR.out]; exact refsMade_lit w _ _ [refOf n r] rfl (by unfold maxLen; simp)⟩

set_option maxRecDepth 100000 in
set_option maxHeartbeats 2000000 in
theorem crefs1 (n : Nat) (hn : n ≤ 256) (k : Int) (hk0 : 0 ≤ k) (rs : List Int) (hrs : ∀ r ∈ rs, 0 ≤ r ∧ r ≤ 255) (hl : rs.length ≤ 256) (rv : Value) (w : World) (hS : Sl (fun _ => True) w rv (u8s rs)) (hk : k % 4 = 1) :
    Calls Yba.prog 11 #[.agg #[.int .u8 k, rv], .int .i64 n] w fun e w' => ∃ v, e = .returned v ∧ RefsMade w w' v (refsOf n k rs) := by
  have ht : k.tmod 4 = 1 := by rw [Int.tmod_eq_emod_of_nonneg hk0]; exact hk
  have HR : Hid (refsOf n k rs = [rAt n rs 0, rAt n rs 1]) := by show refsOf n k rs = [rAt n rs 0, rAt n rs 1]; simp [refsOf, yields, kdOf, elOf, kyOf, hk]
  clear hk
  obtain ⟨a, cap, rfl, hcap, hmax, hnil, hcs⟩ := hS
  rw [u8s_length] at hcap ⊢
  match rs with
  | [] =>
    clear hcs
    go_enter Yba.func11, Yba.ntmps11
    go_wp2
    go_ret
    exact ⟨_, rfl, by rw [HR.out]; exact refsMade_lit w _ _ [2, 2] rfl (by unfold maxLen; simp)⟩
  | [r] =>
    obtain ⟨b, off, rfl, _, hb, hc⟩ := hcs (by simp [u8s])
    have hc0 := hc 0 _ (u8s_get [r] 0 (by simp))
    simp at hc0
    obtain ⟨hr0, hr1⟩ := hrs r (by simp)
    clear hc hcs hrs
    simp only [List.length_cons, List.length_nil] at hl hcap ⊢
    go_enter Yba.func11, Yba.ntmps11
    go_wp2_with (go_at_call 14; refine (cref_any n hn _ ?_ ?_ _).mono ?_; assumption; assumption; rintro e w' ⟨rfl, rfl⟩)
    go_ret
    exact ⟨_, rfl, by rw [HR.out]; exact refsMade_lit w _ _ [refOf n r, 2] rfl (by unfold maxLen; simp)⟩
  | r :: r2 :: rs =>
    obtain ⟨b, off, rfl, _, hb, hc⟩ := hcs (by simp [u8s])
    have hc0 := hc 0 _ (u8s_get (r :: r2 :: rs) 0 (by simp))
    have hc1 := hc 1 _ (u8s_get (r :: r2 :: rs) 1 (by simp))
    simp at hc0 hc1
    obtain ⟨hr0, hr1⟩ := hrs r (by simp)
    obtain ⟨hr2, hr3⟩ := hrs r2 (by simp)
    clear hc hcs hrs
    have HR2 : Hid (refsOf n k (r :: r2 :: rs) = [refOf n r, refOf n r2]) := by show refsOf n k (r :: r2 :: rs) = [refOf n r, refOf n r2]; rw [HR.out]; simp [rAt]
    clear HR
    obtain ⟨m, Hm⟩ : ∃ m, Hid (rs.length = m) := ⟨_, (rfl : rs.length = rs.length)⟩
    simp only [List.length_cons] at hl hcap ⊢
    rw [Hm.out] at hl hcap ⊢
    go_enter Yba.func11, Yba.ntmps11
    go_wp2_with (go_at_call 14; refine (cref_any n hn _ ?_ ?_ _).mono ?_; assumption; assumption; rintro e w' ⟨rfl, rfl⟩)
    go_ret
    exact ⟨_, rfl, by rw [HR2.out]; exact refsMade_lit w _ _ [refOf n r, refOf n r2] rfl (by unfold maxLen; simp)⟩

set_option maxRecDepth 100000 in
set_option maxHeartbeats 2000000 in
theorem crefs3 (n : Nat) (k : Int) (hk0 : 0 ≤ k) (rs : List Int) (rv : Value) (w : World) (hS : Sl (fun _ => True) w rv (u8s rs)) (hk : k % 4 = 3) :
    Calls Yba.prog 11 #[.agg #[.int .u8 k, rv], .int .i64 n] w fun e w' => ∃ v, e = .returned v ∧ RefsMade w w' v (refsOf n k rs) := by
  have ht : k.tmod 4 = 3 := by rw [Int.tmod_eq_emod_of_nonneg hk0]; exact hk
  have HR : Hid (refsOf n k rs = []) := by show refsOf n k rs = []; simp [refsOf, yields, kdOf, hk]
  clear hk
  obtain ⟨a, cap, rfl, hcap, hmax, hnil, hcs⟩ := hS
  clear hcs
  rw [u8s_length] at hcap ⊢
  obtain ⟨m, Hm⟩ : ∃ m, Hid (rs.length = m) := ⟨_, (rfl : rs.length = rs.length)⟩
  rw [Hm.out] at hcap ⊢
  go_enter Yba.func11, Yba.ntmps11
  go_wp2
  go_ret
  exact ⟨_, rfl, by rw [HR.out]; exact ⟨World.ownsRow_nil _ _ _ _, World.grownBy_alloc _ _ _⟩⟩

set_option maxRecDepth 100000 in
set_option maxHeartbeats 2000000 in
theorem crefs2 (n : Nat) (hn : n ≤ 256) (k : Int) (hk0 : 0 ≤ k) (rs : List Int) (hrs : ∀ r ∈ rs, 0 ≤ r ∧ r ≤ 255) (hl : rs.length ≤ 256) (rv : Value) (w : World) (hS : Sl (fun _ => True) w rv (u8s rs)) (hk : k % 4 = 2) :
    Calls Yba.prog 11 #[.agg #[.int .u8 k, rv], .int .i64 n] w fun e w' => ∃ v, e = .returned v ∧ RefsMade w w' v (refsOf n k rs) := by
  obtain ⟨i0, hi, hz0, hz1, hz2⟩ := info_parts Yba.info48
  have ht : k.tmod 4 = 2 := by rw [Int.tmod_eq_emod_of_nonneg hk0]; exact hk
  have HR : Hid (refsOf n k rs = rs.map (refOf n)) := by show refsOf n k rs = rs.map (refOf n); simp [refsOf, yields, kdOf, fsOf, hk]
  clear hk
  obtain ⟨a, cap, rfl, hcap, hmax, hnil, hcs⟩ := hS
  rw [u8s_length] at hcap ⊢
  obtain ⟨m, Hm⟩ : ∃ m, Hid (rs.length = m) := ⟨_, (rfl : rs.length = rs.length)⟩
  rw [Hm.out] at hl hcap ⊢
  go_enter Yba.func11, Yba.ntmps11
  go_wp2_with (at_make; refine wpList_make_own _ rfl _ _ 42 rfl w.heap.size 48 i0 _ 1 Yba.underlying42 hi hz0 hz1 _ _ _ m rfl rfl rfl ?b2 ?b3 (by simp) ?_)
  case b2 => omega
  case b3 => unfold maxLen; omega
  intro w0 hown0 hgrow0
  have e4 : Hid (w.grownBy w0 none) := grownBy.trans (World.grownBy_alloc _ _ _) hgrow0
  have HO : Hid (w0.ownsRow w.heap.size 48 1 (.slice (some ⟨w.heap.size + 1, 0, none⟩) 0 m) 0 []) := hown0
  have d1 : w0.cell? ⟨w.heap.size, 1, none⟩ = some (.slice a m cap) := by
    have e1 : w0.heap[w.heap.size]? = some (.cells #[.int .u8 k, .slice a m cap] 46 (0, 0)) := (hgrow0.block w.heap.size (by simp) (by simp)).trans (heap_alloc_new w _)
    rw [cell_of_row w0 _ 1 _ 46 (0, 0) e1]; rfl
  clear hown0 hgrow0
  go_wp2
  go_loopw [7, 61] (fun s7 si wr => ∃ kk : Nat, kk ≤ m ∧ si = .int .i64 kk ∧ wr.ownsRow w.heap.size 48 1 s7 kk (ints ((rs.map (refOf n)).take kk)) ∧ w.grownBy wr none) (fun _ si _ => m - (intOf si).toNat)
  case atStart => exact ⟨0, Nat.zero_le _, rfl, HO.out, e4.out⟩
  case round =>
    clear HO e4 d1
    obtain ⟨kk, hkm, rfl, hown, hgr⟩ := hrel
    by_cases hlt : kk < m
    · obtain ⟨b, off, rfl, _, hb, hc⟩ := hcs (fun e => by have := congrArg List.length e; rw [u8s_length, Hm.out] at this; simp at this; omega)
      obtain ⟨r, HR1⟩ : ∃ r, Hid (r = rs.getD kk 0) := ⟨_, (rfl : rs.getD kk 0 = rs.getD kk 0)⟩
      have hget : rs[kk]? = some r := by rw [HR1.out, List.getD_eq_getElem?_getD, List.getElem?_eq_getElem (by rw [Hm.out]; exact hlt)]; rfl
      obtain ⟨hr0, hr1⟩ := hrs r (List.mem_of_getElem? hget)
      have hcr : wr.cell? ⟨b, off + kk, none⟩ = some (.int .u8 r) := by
        have := hc kk _ (u8s_get rs kk (by rw [Hm.out]; exact hlt))
        rw [← HR1.out] at this
        exact cellG hgr (.inl rfl) this
      have HT : Hid ((rs.map (refOf n)).take (kk + 1) = (rs.map (refOf n)).take kk ++ [refOf n r]) := by
        show (rs.map (refOf n)).take (kk + 1) = (rs.map (refOf n)).take kk ++ [refOf n r]
        rw [List.take_add_one]; simp [hget]
      have hsz := hgr.size
      obtain ⟨sa, sc, rfl⟩ := row_form hown
      clear hc hcs hcap hget
      go_wp2_with (first
        | (go_at_call 14; refine (cref_any n hn _ ?_ ?_ _).mono ?_; assumption; assumption; rintro e wr ⟨rfl, rfl⟩)
        | (at_builtin; refine wpList_append_lies _ rfl _ _ 42 rfl w.heap.size 48 i0 _ 1 8 Yba.underlying42 hi hz0 hz1 hz2 rfl (by omega) _ kk _ rfl (hown.alloc _) ⟨wr.heap.size, 0, none⟩ 1 1 [_] rfl rfl (news1 _ _ _) (by simp [Value.oneCell']) (by omega) (by unfold maxLen; omega) (by omega) (by simp; omega) (wr.heap.size + 1) (by simp) ?_))
      intro g cap' w2 hown2 hgrow2 hat2 hlt2
      have HG : Hid (w.grownBy w2 none) := grownBy.inner hgr (grownBy.trans (World.grownBy_alloc _ _ _) hgrow2) (fun i hi => (hown.lt i hi).1)
      have HO : Hid (w2.ownsRow w.heap.size 48 1 (.slice (some ⟨g, 0, none⟩) (kk + 1) cap') (kk + 1) (ints ((rs.map (refOf n)).take (kk + 1)))) := by
        show w2.ownsRow w.heap.size 48 1 (.slice (some ⟨g, 0, none⟩) (kk + 1) cap') (kk + 1) (ints ((rs.map (refOf n)).take (kk + 1)))
        rw [HT.out, ints_append]; exact hown2
      clear hown2 hgrow2 hat2 hlt2 hown hgr
      go_wp2
      go_roundw
      case rel => exact ⟨kk + 1, by omega, by go_num, HO.out, HG.out⟩
      case measure => simp [intOf]; omega
    · obtain rfl : kk = m := by omega
      go_wp2
      go_ret
      refine ⟨_, rfl, ?_⟩
      rw [HR.out]
      rw [List.take_of_length_le (by rw [List.length_map]; exact Nat.le_of_eq Hm.out)] at hown
      exact ⟨by rw [List.length_map, Hm.out]; exact hown, hgr⟩

theorem crefs_any (n : Nat) (hn : n ≤ 256) (k : Int) (hk0 : 0 ≤ k) (rs : List Int) (hrs : ∀ r ∈ rs, 0 ≤ r ∧ r ≤ 255) (hl : rs.length ≤ 256) (rv : Value) (w : World) (hS : Sl (fun _ => True) w rv (u8s rs)) : Calls Yba.prog 11 #[.agg #[.int .u8 k, rv], .int .i64 n] w fun e w' => ∃ v, e = .returned v ∧ RefsMade w w' v (refsOf n k rs) := by
  have : k % 4 = 0 ∨ k % 4 = 1 ∨ k % 4 = 2 ∨ k % 4 = 3 := by omega
  rcases this with h | h | h | h
  · exact crefs0 n hn k hk0 rs hrs hl rv w hS h
  · exact crefs1 n hn k hk0 rs hrs hl rv w hS h
  · exact crefs2 n hn k hk0 rs hrs hl rv w hS h
  · exact crefs3 n k hk0 rs rv w hS h
end Go.Proofs.Ybulkazqi
