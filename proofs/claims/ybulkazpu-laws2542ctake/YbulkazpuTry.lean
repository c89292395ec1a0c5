import Derived.Test.YbulkazpuTake
namespace Go.Proofs.Ybulkazpu
open Go.RowKit
open Go.MuLone
open Go.Conc.Locks

set_option maxHeartbeats 800000 in
theorem itry_free (a : Addr) (w : World) (hc : w.cell? a = some (.int .i32 0)) (hz : w.frozen? a = false) :
    Calls Yba.prog 13 #[.pointer (some a)] w fun e w' => e = .returned (.bool true) ∧ w' = w.setCell a (.int .i32 1) := by
  have H := Yba.muLib
  have hd := disable H
  have he := enable H
  have hq := acquire H
  have hcv := fun (w : World) (v : Value) (hc : w.cell? a = some v) => run_convert_to_unsafe (P := Yba.prog) (src := 73) (dst := 77) H.underlying_tPIMutex H.underlying_tUP H.room_tIMutex hc
  have hcas := run_call_cas_hit (P := Yba.prog) H.f_cas32 (by kernel_rfl) (by kernel_rfl) (by kernel_rfl) .i32 (by kernel_rfl) (x := 0) (y := 1) hc hz
  clear H
  go_enter Yba.func13, Yba.ntmps13
  go_wp2
  go_ret
  exact ⟨rfl, rfl⟩

set_option maxHeartbeats 800000 in
theorem try_free (a : Addr) (w : World) (hc : w.cell? a = some (.int .i32 0)) (hz : w.frozen? a = false) :
    Calls Yba.prog 10 #[.pointer (some a)] w fun e w' => e = .returned (.bool true) ∧ w' = w.setCell a (.int .i32 1) := by
  go_enter Yba.func10, Yba.ntmps10
  go_wp2_with (go_at_call 13; refine (itry_free a _ hc hz).mono ?_; rintro e w' ⟨rfl, rfl⟩)
  go_ret
  exact ⟨rfl, rfl⟩
end Go.Proofs.Ybulkazpu
