import Derived.Test.YbulkazpuEq
import Derived.Deep.RegionHeld3
import Derived.Deep.RegionLaw
import Derived.Deep.AppendLies
import Derived.Deep.DeepCutAuto
import Derived.StillTactics
import Derived.Laws.Pointers
namespace Go.Proofs.Ybulkazpu
open Go.RowKit Go.Bs

/-- The transactions that Decode answers. -/
def decoded (s : Bool) (zss : List (List Int)) (zs : List Int) : List (List Int) := if s then zss else zs.map (fun z => [z])

set_option maxRecDepth 100000 in
set_option maxHeartbeats 1600000 in
theorem decode_any (A : Nat) (s : Bool) (dec v : Value) (vs : List Value) (zss : List (List Int)) (zs : List Int) (w : World) (hA : A < w.heap.size)
    (c1 : w.cell? ⟨A, 1, none⟩ = some (.bool s)) (c2 : w.cell? ⟨A, 2, none⟩ = some dec) (c3 : w.cell? ⟨A, 3, none⟩ = some (.slice none 0 0)) (f3 : w.frozen? ⟨A, 3, none⟩ = false)
    (h : Sl (· ≠ A) w v (u8s zs)) (hl : zs.length ≤ 1024) (hd : Sl (· ≠ A) w dec vs) (hds : Sls (· ≠ A) w vs zss) (hdl : zss.length ≤ 1024) (hdm : ∀ zs ∈ zss, zs.length ≤ 1024) :
    Calls Yba.prog 46 #[.pointer (some ⟨A, 0, none⟩), v] w fun e w' => ∃ out dIn c rs, e = .returned out ∧ Noted A 3 w w' dIn ∧ Sl (· ≠ A) w' dIn [c] ∧ Sl (· ≠ A) w' c (u8s zs) ∧
      Sl (· ≠ A) w' out rs ∧ Sls (· ≠ A) w' rs (decoded s zss zs) := by
  obtain ⟨i0, hi, hz0, hz1, hz2⟩ := info_parts Yba.info22
  go_enter Yba.func46, Yba.ntmps46
  go_wp2_with fail
  go_cut [] (fun wc => ∃ dIn c, Noted A 3 w wc dIn ∧ Sl (· ≠ A) wc dIn [c] ∧ Sl (· ≠ A) wc c (u8s zs))
  case first =>
    clear hd hds hdl hdm c1 c2
    go_region_law (first
      | (go_simp; go_at_call 48; refine (copy_any (· ≠ A) v zs _ ?_ ?_).mono ?_; exact h.drew; omega; rintro e w1 ⟨rfl, hs1, hg1⟩; have k3 : w1.cell? ⟨A, 3, none⟩ = some (.slice none 0 0) := cellG hg1 (.inl rfl) c3; have z3 : w1.frozen? ⟨A, 3, none⟩ = false := frozG hg1 (.inl rfl) hA f3; have hA1 : A < w1.heap.size := Nat.lt_of_lt_of_le hA hg1.size)
      | (have hB := hg1.size; refine step_append_lies _ (by rfl) _ _ _ (by rfl) w.heap.size 22 i0 _ 1 24 Yba.underlying26 hi hz0 hz1 hz2 rfl (by omega) (.slice none 0 0) 0 [] (by rfl) (World.ownsRow_nil _ _ _ _)
                 ⟨w1.heap.size, 0, none⟩ 1 1 [_] (by rfl) (by rfl) (news1 _ _ _) (by simp [Value.oneCell'])
                 (by omega) (by unfold maxLen; omega) (by omega) (by simp at hB ⊢; omega) (w1.heap.size + 1) (by simp) ?_; intro gg cap w2 hown2 hgrow2 hat2 hlt2; have k4 : w2.cell? ⟨A, 3, none⟩ = some (.slice none 0 0) := cellG hgrow2 (.inl rfl) (cellG (World.grownBy_alloc _ _ none) (.inl rfl) k3); have z4 : w2.frozen? ⟨A, 3, none⟩ = false := frozG hgrow2 (.inl rfl) (by simp; omega) (frozG (World.grownBy_alloc _ _ none) (.inl rfl) hA1 z3)))
    all_goals
      go_wp2
      go_meet
      case rel =>
        have hgw : w.grownBy w2 none := grownBy.trans (grownBy.alloc (grownBy.ofDrew hg1) _) hgrow2
        refine ⟨_, _, Noted.store _ hA hgw k4, ((Sl.ofOwns hown2).mono (fun b hb _ => ?_)).setCell (by simp) _, (((hs1.mono (ok' := (· ≠ A)) (fun b hb _ => ?_)).alloc _).grown hgrow2 (fun _ _ => by simp [Value.ownBlock])).setCell (by simp) _⟩
        · have := hb.2; omega
        · have := hb; simp at this; omega
  case rest =>
    obtain ⟨dIn, c, hN, hD, hC⟩ := hcut
    have hAc : A < wc.heap.size := Nat.lt_of_lt_of_le hA hN.grown.size
    have d1 : wc.cell? ⟨A, 1, none⟩ = some (.bool s) := (hN.other 1 (by decide)).trans c1
    have d2 : wc.cell? ⟨A, 2, none⟩ = some dec := (hN.other 2 (by decide)).trans c2
    have hv := h.grown hN.grown (fun k hk e => hk (Option.some.inj e))
    have hdc := hd.grown hN.grown (fun k hk e => hk (Option.some.inj e))
    have hdcs := hds.grown hN.grown (fun k hk e => hk (Option.some.inj e))
    clear c1 c2 c3 f3 h hd hds
    cases s with
    | false =>
      obtain ⟨a, cap, rfl, hcap, hmax, hcs⟩ := hv.shape
      rw [u8s_length] at hcap hcs ⊢
      unfold maxLen at hmax
      clear hv hdc hdcs hdl hdm
      go_wp2
      go_loopw [5, 7] (fun tv si wr => ∃ (k : Nat) (rs : List Value), k ≤ zs.length ∧ si = .int .i64 k ∧ wr.ownsRow wc.heap.size 22 1 tv k rs ∧
          Sls (fun b => wc.heap.size ≤ b ∧ tv.ownBlock ≠ some b) wr rs ((zs.take k).map (fun z => [z])) ∧ wc.grownBy wr none)
        (fun _ si _ => zs.length - (intOf si).toNat)
      case atStart => exact ⟨0, [], Nat.zero_le _, rfl, World.ownsRow_nil _ _ _ _, Sls.nil _ _, World.grownBy.refl _ _⟩
      case round =>
        obtain ⟨k, rs, hk, rfl, hown, hrs, hgr⟩ := hrel
        have hsz := hgr.size
        by_cases hlt : k < zs.length
        · obtain ⟨b, off, rfl, _, hb, hc⟩ := hcs (by omega)
          obtain ⟨x, HX⟩ : ∃ x, Hid (x = zs.getD k 0) := ⟨_, rfl⟩
          have hcx : wr.cell? ⟨b, off + k, none⟩ = some (.int .u8 x) := by rw [HX.out]; exact cellG hgr (.inl rfl) (hc k _ (u8s_get zs k hlt))
          clear hc hcs
          go_wp2_with (at_builtin; refine wpList_append_lies _ rfl _ _ 26 rfl wc.heap.size 22 i0 _ 1 24 Yba.underlying26 hi hz0 hz1 hz2 rfl (by omega) _ k rs rfl ((hown.alloc _).alloc _) ⟨wr.heap.size + 1, 0, none⟩ 1 1 [_] rfl rfl (by simpa using news1 (wr.alloc _) _ _) (by simp [Value.oneCell']) (by omega) (by unfold maxLen; omega) (by omega) (by simp; omega) (wr.heap.size + 2) (by simp) ?_)
          intro g cap' w2 hown2 hgrow2 hat2 hlt2
          go_wp2
          go_roundw
          case rel =>
            refine ⟨k + 1, rs ++ [_], by omega, by go_num, hown2, ?_, grownBy.inner (grownBy.alloc (grownBy.alloc hgr _) _) hgrow2 (fun i hi => (hown.lt i hi).1)⟩
            rw [List.take_succ_eq_append_getElem hlt, List.map_append]
            refine Sls.push hrs (fun j hj => (hown.lt j hj).2) (fun b hb => by omega) (World.grownBy_alloc _ _ _) ?_ hgrow2 (by simpa using hat2)
            have hx : [zs[k]] = [x] := by simp [HX.out, hlt]
            simp only [hx]
            exact Sl.lit wr #[.int .u8 x] 5 (Nat.le_refl _) (by simp [maxLen])
          case measure => simp [intOf]; omega
        · go_wp2
          go_ret
          have hkn : k = zs.length := by omega
          subst hkn
          rw [List.take_of_length_le (Nat.le_refl _)] at hrs
          exact ⟨_, dIn, c, rs, rfl, hN.grow hA hgr, hD.grown hgr (fun _ _ => by simp), hC.grown hgr (fun _ _ => by simp), (Sl.ofOwns hown).mono (fun b hb _ => by have := hb.2; omega), by simpa [decoded] using hrs.mono (fun b hb _ => by have := hb.1; omega)⟩
    | true =>
      obtain ⟨a, cap, rfl, hcap, hmax, hcs⟩ := hdc.shape
      have hvl : vs.length = zss.length := hdcs.1
      rw [hvl] at hcap hcs d2
      unfold maxLen at hmax
      clear hv hdc hl
      go_wp2
      go_loopw [5, 6] (fun tv si wr => ∃ (k : Nat) (rs : List Value), k ≤ zss.length ∧ si = .int .i64 k ∧ wr.ownsRow wc.heap.size 22 1 tv k rs ∧
          Sls (fun b => wc.heap.size ≤ b ∧ tv.ownBlock ≠ some b) wr rs (zss.take k) ∧ wc.grownBy wr none)
        (fun _ si _ => zss.length - (intOf si).toNat)
      case atStart => exact ⟨0, [], Nat.zero_le _, rfl, World.ownsRow_nil _ _ _ _, Sls.nil _ _, World.grownBy.refl _ _⟩
      case round =>
        obtain ⟨k, rs, hk, rfl, hown, hrs, hgr⟩ := hrel
        have hsz := hgr.size
        have e2 := cellG hgr (.inl rfl) d2
        by_cases hlt : k < zss.length
        · obtain ⟨b, off, rfl, _, hb, hc⟩ := hcs (by omega)
          have hltv : k < vs.length := by omega
          obtain ⟨r, HR⟩ : ∃ r, Hid (r = vs[k]) := ⟨vs[k], (rfl : vs[k] = vs[k])⟩
          obtain ⟨z, HZ⟩ : ∃ z, Hid (z = zss[k]) := ⟨zss[k], (rfl : zss[k] = zss[k])⟩
          have hcx : wr.cell? ⟨b, off + k, none⟩ = some r := by rw [HR.out]; exact cellG hgr (.inl rfl) (hc k _ (List.getElem?_eq_getElem hltv))
          have hr : Sl (· ≠ A) wr r (u8s z) := (hdcs.2 k r z (by rw [HR.out]; exact List.getElem?_eq_getElem hltv) (by rw [HZ.out]; exact List.getElem?_eq_getElem hlt)).grown hgr (fun _ _ => by simp)
          have hzl : z.length ≤ 4096 := by have := hdm z (by rw [HZ.out]; exact List.getElem_mem _); omega
          obtain ⟨ra, rcap, HF⟩ : ∃ ra rcap, Hid (r = .slice ra z.length rcap) := by
            obtain ⟨ra, rcap, e, _⟩ := hr.shape
            exact ⟨ra, rcap, by rw [u8s_length] at e; exact e⟩
          rw [HF.out] at hcx
          clear hc hcs hdcs hdm
          go_wp2_with fail
          refine (copy_any (· ≠ A) _ z wr (by have := hr; rw [HF.out] at this; exact this) hzl).mono ?_
          rintro e w1 ⟨rfl, hs1, hg1⟩
          have hsz1 := hg1.size
          have hown1 := hown.kept hg1 (by cases hv : Value.ownBlock _ <;> simp)
          go_wp2_with (at_builtin; refine wpList_append_lies _ rfl _ _ 26 rfl wc.heap.size 22 i0 _ 1 24 Yba.underlying26 hi hz0 hz1 hz2 rfl (by omega) _ k rs rfl (hown1.alloc _) ⟨w1.heap.size, 0, none⟩ 1 1 [_] rfl rfl (news1 _ _ _) (by simp [Value.oneCell']) (by omega) (by unfold maxLen; omega) (by omega) (by simp; omega) (w1.heap.size + 1) (by simp) ?_)
          intro g cap' w2 hown2 hgrow2 hat2 hlt2
          go_wp2
          go_roundw
          case rel =>
            refine ⟨k + 1, rs ++ [_], by omega, by go_num, hown2, ?_, grownBy.inner (grownBy.alloc (grownBy.trans hgr hg1) _) hgrow2 (fun i hi => (hown.lt i hi).1)⟩
            rw [List.take_succ_eq_append_getElem hlt, ← HZ.out]
            exact Sls.push hrs (fun j hj => (hown.lt j hj).2) (fun b hb => by omega) hg1 hs1 hgrow2 hat2
          case measure => simp [intOf]; omega
        · go_wp2
          go_ret
          have hkn : k = zss.length := by omega
          subst hkn
          rw [List.take_of_length_le (Nat.le_refl _)] at hrs
          exact ⟨_, dIn, c, rs, rfl, hN.grow hA hgr, hD.grown hgr (fun _ _ => by simp), hC.grown hgr (fun _ _ => by simp), (Sl.ofOwns hown).mono (fun b hb _ => by have := hb.2; omega), by simpa [decoded] using hrs.mono (fun b hb _ => by have := hb.1; omega)⟩
end Go.Proofs.Ybulkazpu
