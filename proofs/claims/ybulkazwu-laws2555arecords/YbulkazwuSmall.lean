import Derived.Test.YbulkazwuTime
import Derived.Test.YbulkazwuMaps
import Derived.Laws.LoneSync
namespace Go.Proofs.Ybulkazwu
open Go.RowKit Go.Bs

set_option maxRecDepth 100000 in
set_option maxHeartbeats 1000000 in
theorem load_any (b o : Nat) (v : Int) (w : World) (hc : w.cell? ⟨b, o, none⟩ = some (.int .i64 v)) :
    Calls Yba.prog 9 #[.pointer (some ⟨b, o, none⟩)] w fun e w' => e = .returned (.int .i64 v) ∧ w' = w := by
  have hl := run_call_load (P := Yba.prog) Yba.func18 (by kernel_rfl) (by kernel_rfl) (by kernel_rfl) .i64 (by kernel_rfl) hc
  go_enter Yba.func9, Yba.ntmps9
  go_wp2
  go_ret
  exact ⟨rfl, rfl⟩

set_option maxRecDepth 100000 in
set_option maxHeartbeats 1000000 in
theorem store_any (b o : Nat) (u : Value) (v : Int) (w : World) (hc : w.cell? ⟨b, o, none⟩ = some u) (hz : w.frozen? ⟨b, o, none⟩ = false) :
    Calls Yba.prog 6 #[.pointer (some ⟨b, o, none⟩), .int .i64 v] w fun e w' => e = .returned (.tuple #[]) ∧ w' = w.setCell ⟨b, o, none⟩ (.int .i64 v) := by
  have hst := run_call_store (P := Yba.prog) Yba.func14 (by kernel_rfl) (by kernel_rfl) (by kernel_rfl) (by kernel_rfl) (k := .i64) (y := v) hc hz
  go_enter Yba.func6, Yba.ntmps6
  go_wp2
  go_end0
  exact ⟨rfl, rfl⟩

def i64s (zs : List Int) : List Value := zs.map (Value.int .i64)
theorem i64s_length (zs : List Int) : (i64s zs).length = zs.length := by simp [i64s]

/-- 'zzs2555aval'. -/
def aval (sent : List Int) (j t : Nat) : Int := match sent[j * 20 + t]? with | some x => x | none => j * 100 + t + 1

set_option maxRecDepth 100000 in
set_option maxHeartbeats 1000000 in
theorem aval_any (ok : Nat → Prop) (v : Value) (sent : List Int) (j t : Nat) (hj : j < 8) (ht : t < 20) (w : World) (hS : Sl ok w v (i64s sent)) :
    Calls Yba.prog 5 #[v, .int .i64 j, .int .i64 t] w fun e w' => e = .returned (.int .i64 (aval sent j t)) ∧ w' = w := by
  obtain ⟨a, cap, rfl, hcap, hmax, hnil, hcs⟩ := hS
  rw [i64s_length] at hcap ⊢
  unfold maxLen at hmax
  have hlen : sent.length ≤ 9223372036854775807 := by omega
  obtain ⟨n, Hn⟩ : ∃ n, Hid (sent.length = n) := ⟨_, (rfl : sent.length = sent.length)⟩
  by_cases hlt : j * 20 + t < sent.length
  · obtain ⟨b, off, rfl, _, hb, hc⟩ := hcs (fun e => by have := congrArg List.length e; rw [i64s_length, List.length_nil] at this; omega)
    obtain ⟨x, hx⟩ : ∃ x, sent[j * 20 + t]? = some x := ⟨_, List.getElem?_eq_getElem hlt⟩
    have hcx := hc (j * 20 + t) (.int .i64 x) (by simp [i64s, hx])
    have HA : Hid (aval sent j t = x) := by show aval sent j t = x; simp [aval, hx]
    rw [Hn.out] at hlt hlen hcap ⊢
    have hx1 : (j : Int) * 2 * 10 + t = ((j * 20 + t : Nat) : Int) := by omega
    have hx2 : ((j * 20 + t : Nat) : Int) < n := by omega
    clear hc hcs hx
    go_enter Yba.func5, Yba.ntmps5
    go_wp2
    go_ret
    exact ⟨by rw [HA.out]; rfl, rfl⟩
  · have HA : Hid (aval sent j t = j * 100 + t + 1) := by
      show aval sent j t = j * 100 + t + 1
      simp [aval, List.getElem?_eq_none (Nat.le_of_not_lt hlt)]
    rw [Hn.out] at hlt hlen hcap ⊢
    have hx1 : (j : Int) * 2 * 10 + t = ((j * 20 + t : Nat) : Int) := by omega
    have hx2 : ¬ ((j * 20 + t : Nat) : Int) < n := by omega
    clear hcs
    go_enter Yba.func5, Yba.ntmps5
    go_wp2
    go_ret
    exact ⟨by rw [HA.out]; rfl, rfl⟩

set_option maxRecDepth 100000 in
set_option maxHeartbeats 1000000 in
theorem atRest_any (g o k : Nat) (hk : k < 10) (x : Int) (w : World) (hc : w.cell? ⟨g, o + 1 + k, none⟩ = some (.int .i64 x)) :
    Calls Yba.prog 16 #[.pointer (some ⟨g, o, none⟩), .int .i64 k] w fun e w' => e = .returned (.int .i64 x) ∧ w' = w := by
  have ht : (k : Int).tmod 10 = k := by rw [Int.tmod_eq_emod_of_nonneg (by omega)]; omega
  have hk' : (k : Int) < 20 := by omega
  go_enter Yba.func16, Yba.ntmps16
  go_wp2
  go_ret
  exact ⟨rfl, rfl⟩
end Go.Proofs.Ybulkazwu
