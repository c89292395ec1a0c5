import Derived.Test.YbulkazpuRows
import Derived.Test.YbulkazpuLocks
import Derived.Conc.MuLone
import Derived.WalkKit
import Derived.WalkSpells
namespace Go.Proofs.Ybulkazpu
open Go.RowKit
open Go.MuLone

set_option maxHeartbeats 800000 in
theorem take_any (b : Nat) (d : Int) (w : World)
    (h0 : w.cell? ⟨b, 0, none⟩ = some (.int .i32 0)) (h4 : w.cell? ⟨b, 4, none⟩ = some (.int .i64 d))
    (f0 : w.frozen? ⟨b, 0, none⟩ = false) (f4 : w.frozen? ⟨b, 4, none⟩ = false) :
    Calls Yba.prog 9 #[.pointer (some ⟨b, 0, none⟩)] w fun e w' => e = .returned (.int .i64 d) ∧
      w' = ((w.setCell ⟨b, 0, none⟩ (.int .i32 1)).setCell ⟨b, 4, none⟩ (.int .i64 0)).setCell ⟨b, 0, none⟩ (.int .i32 0) := by
  go_enter_defers Yba.func9, Yba.ntmps9
  go_wp2_with (go_at_call 12; refine (lock_free Yba.muLib ⟨b, 0, none⟩ _ h0 f0).mono ?_; rintro e w' ⟨rfl, rfl⟩)
  refine leaves_cons (f := 11) (args := #[.pointer (some ⟨b, 0, none⟩)]) (by simp) (by simp [go_sem]) ?_
  refine (unlock_deferred Yba.muLib ⟨b, 0, none⟩ .returning _ ?_ ?_).mono ?_
  · exact (World.cell?_setCell_other _ ⟨b, 4, none⟩ ⟨b, 0, none⟩ _ (by simp)).trans (World.cell?_setCell_same w ⟨b, 0, none⟩ (.int .i32 1) h0)
  · simp [f0]
  rintro e u' w'' ⟨rfl, rfl, rfl⟩
  exact ⟨_, results_tmp rfl _ _ _, rfl, rfl⟩

end Go.Proofs.Ybulkazpu
