import Derived.Test.YbulkazpuRows
import Derived.Test.YbulkazpuBase
import Derived.BigQuiet
namespace Go.Proofs.Ybulkazpu
open Go.RowKit Go.Bs

theorem Yba.info5 : (Yba.prog.info? 5).map (fun i => (i.zero, i.size, i.bytes)) = some (some (.int .u8 0), 1, 1) := by kernel_rfl
theorem Yba.info22 : (Yba.prog.info? 22).map (fun i => (i.zero, i.size, i.bytes)) = some (some (.slice none 0 0), 1, 24) := by kernel_rfl
theorem Yba.info26 : (Yba.prog.info? 26).map (fun i => (i.zero, i.size, i.bytes)) = some (some (.slice none 0 0), 1, 24) := by kernel_rfl

set_option maxRecDepth 100000 in
set_option maxHeartbeats 1600000 in
/-- 'zzs2542acopy': a new row with the same bytes. -/
theorem copy_any (ok : Nat → Prop) (v : Value) (zs : List Int) (w : World) (h : Sl ok w v (u8s zs)) (hl : zs.length ≤ 4096) :
    Calls Yba.prog 48 #[v] w fun e w' => e = .returned (.slice (some ⟨w.heap.size, 0, none⟩) zs.length zs.length) ∧ Sl (fun b => w.heap.size ≤ b) w' (.slice (some ⟨w.heap.size, 0, none⟩) zs.length zs.length) (u8s zs) ∧ w.grownBy w' none := by
  obtain ⟨i0, hi, hz0, hz1, hz2⟩ := info_parts Yba.info5
  obtain ⟨a, cap, rfl, hcap, hmax, hcs⟩ := h.shape
  rw [u8s_length] at hcap hcs ⊢
  unfold maxLen at hmax
  go_enter Yba.func48, Yba.ntmps48
  go_wp2_with (at_make; refine wpList_make_own _ rfl _ _ 22 rfl w.heap.size 5 i0 (.int .u8 0) 1 Yba.underlying22 hi hz0 hz1 _ _ _ zs.length rfl rfl rfl ?b2 ?b3 (Nat.le_refl _) ?_)
  case b2 => rw [hz2]; omega
  case b3 => unfold maxLen; omega
  intro w0 hown0 hgrow0
  go_wp2
  go_loopw [3, 4] (fun out si wr => ∃ k : Nat, k ≤ zs.length ∧ si = .int .i64 k ∧ out = .slice (some ⟨w.heap.size, 0, none⟩) k zs.length ∧
      wr.ownsRow w.heap.size 5 1 (.slice (some ⟨w.heap.size, 0, none⟩) k zs.length) k (u8s (zs.take k)) ∧ Below w.heap.size w wr)
    (fun _ si _ => zs.length - (intOf si).toNat)
  case atStart => exact ⟨0, Nat.zero_le _, rfl, rfl, by simpa [u8s] using hown0, (Below.refl _ _).grown hgrow0 (Nat.le_refl _) (fun k h => by cases h)⟩
  case round =>
    obtain ⟨k, hk, rfl, rfl, hown, hnx⟩ := hrel
    by_cases hlt : k < zs.length
    · obtain ⟨b, off, rfl, _, hb, hc⟩ := hcs (by omega)
      obtain ⟨x, HX⟩ : ∃ x, Hid (x = zs.getD k 0) := ⟨_, rfl⟩
      have hcx : wr.cell? ⟨b, off + k, none⟩ = some (.int .u8 x) := by rw [HX.out]; exact (hnx.cell (by exact hb)).trans (hc k _ (u8s_get zs k hlt))
      clear hc hcs
      go_wp2_with (at_builtin; refine wpList_append_fits _ rfl _ _ 22 rfl w.heap.size 5 i0 1 Yba.underlying22 hi hz1 w.heap.size k zs.length _ rfl (hown.alloc _) ⟨wr.heap.size, 0, none⟩ 1 1 [.int .u8 x] rfl rfl (news1 _ _ _) (by intro u hu; simp at hu; subst hu; rfl) (by omega) ?_)
      intro w1 hown1 hgrow1
      go_wp2
      go_roundw
      case rel =>
        exact ⟨k + 1, by omega, by go_num, rfl, by rw [List.take_succ_eq_append_getElem hlt, u8s_append]; simpa [u8s, HX.out, hlt] using hown1, (hnx.alloc hnx.size _).grown hgrow1 (by simp; have := hnx.size; omega) (fun k hk => by cases hk; exact Nat.le_refl _)⟩
      case measure => simp [intOf]; omega
    · go_wp2
      go_ret
      have hkn : k = zs.length := by omega
      subst hkn
      rw [List.take_of_length_le (Nat.le_refl _)] at hown
      exact ⟨rfl, (Sl.ofOwns hown).mono (fun b hb _ => hb.2), grownBy.ofBelow hnx⟩

set_option maxRecDepth 100000 in
set_option maxHeartbeats 1600000 in
/-- 'zzs2542aeq' of two slices that hold the same bytes: true; it only reads. -/
theorem eq_same (ok ok' : Nat → Prop) (v u : Value) (zs : List Int) (w : World) (h : Sl ok w v (u8s zs)) (h' : Sl ok' w u (u8s zs)) :
    Calls Yba.prog 8 #[v, u] w fun e w' => e = .returned (.bool true) ∧ ∃ n, w' = w.drewN n := by
  obtain ⟨a, cap, rfl, hcap, hmax, hcs⟩ := h.shape
  obtain ⟨a', cap', rfl, hcap', hmax', hcs'⟩ := h'.shape
  rw [u8s_length] at hcap hcs hcap' hcs' ⊢
  clear h h'
  unfold maxLen at hmax hmax'
  go_enter Yba.func8, Yba.ntmps8
  go_wp2
  go_loopw [5] (fun si wr => ∃ k n : Nat, k ≤ zs.length ∧ si = .int .i64 k ∧ wr = w.drewN n)
    (fun si _ => zs.length - (intOf si).toNat)
  case atStart => exact ⟨0, 0, Nat.zero_le _, rfl, rfl⟩
  case round =>
    obtain ⟨k, n, hk, rfl, rfl⟩ := hrel
    by_cases hlt : k < zs.length
    · obtain ⟨b, off, rfl, _, hb, hc⟩ := hcs (by omega)
      obtain ⟨b', off', rfl, _, hb', hc'⟩ := hcs' (by omega)
      obtain ⟨x, HX⟩ : ∃ x, Hid (x = zs.getD k 0) := ⟨_, rfl⟩
      have hcx : w.cell? ⟨b, off + k, none⟩ = some (.int .u8 x) := by rw [HX.out]; exact hc k _ (u8s_get zs k hlt)
      have hcx' : w.cell? ⟨b', off' + k, none⟩ = some (.int .u8 x) := by rw [HX.out]; exact hc' k _ (u8s_get zs k hlt)
      clear hc hcs hc' hcs'
      go_wp2_with fail
      go_quiet (fail)
      go_wp2
      go_roundw
      case rel => exact ⟨k + 1, _, by omega, by go_num, rfl⟩
      case measure => simp [intOf]; omega
    · go_wp2
      go_ret
      exact ⟨rfl, _, rfl⟩

end Go.Proofs.Ybulkazpu
