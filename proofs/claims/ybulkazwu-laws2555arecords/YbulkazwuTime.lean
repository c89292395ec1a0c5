import Derived.Test.YbulkazwuRows
import Derived.Test.YbulkazwuBase
import Derived.Test.YbulkazwuLocks
import Derived.WalkKit
import Derived.WalkSpells
import Derived.WalkLawsBesides
import Derived.WalkSmall
namespace Go.Proofs.Ybulkazwu
open Go.RowKit Go.Bs
open Go.MuLone

theorem two_new (w : World) (o1 o2 : Obj) : ((w.alloc o1).alloc o2).heap[w.heap.size + 1]? = some o2 ∧ w.grownBy ((w.alloc o1).alloc o2) none := by
  refine ⟨?_, grownBy.alloc (World.grownBy_alloc _ _ _) _⟩
  have := heap_alloc_new (w.alloc o1) o2
  simpa using this
theorem Yba.size27 : (Yba.prog.info? 27).map (·.size) = some 3 := by kernel_rfl
theorem B1 (x : Int) (h0 : 0 ≤ x) (h1 : x < 1000000000) : bits BinOp.and IntKind.u64 x 1073741823 = x := by
  obtain ⟨n, rfl⟩ := Int.eq_ofNat_of_zero_le h0
  refine (bits_and_u64_nat n 1073741823 (by omega) (by omega)).trans ?_
  rw [show (1073741823 : Nat) = 2 ^ 30 - 1 by decide, Nat.and_two_pow_sub_one_eq_mod, Nat.mod_eq_of_lt (by omega)]
theorem B2 (x : Int) (h0 : 0 ≤ x) (h1 : x < 1000000000) : bits BinOp.and IntKind.u64 x 9223372036854775808 = 0 := by
  obtain ⟨n, rfl⟩ := Int.eq_ofNat_of_zero_le h0
  refine (bits_and_u64_nat n 9223372036854775808 (by omega) (by omega)).trans ?_
  have hn : n < 2 ^ 63 := Nat.lt_of_lt_of_le (by omega : n < 1073741824) (by decide)
  have : n &&& 9223372036854775808 = 0 := by
    rw [show (9223372036854775808 : Nat) = 2 ^ 63 by decide]
    apply Nat.eq_of_testBit_eq
    intro i
    rw [Nat.testBit_and, Nat.testBit_two_pow, Nat.zero_testBit]
    by_cases e : 63 = i
    · subst e
      rw [Nat.testBit_lt_two_pow hn]; rfl
    · simp [e]
  rw [this]; rfl
theorem B3 (x : Int) (h0 : 0 ≤ x) (h1 : x < 1000000000) : bits BinOp.or IntKind.u64 0 x = x := by
  obtain ⟨n, rfl⟩ := Int.eq_ofNat_of_zero_le h0
  refine (bits_or_u64_nat 0 n (by omega) (by omega)).trans ?_
  rw [Nat.zero_or]
theorem B4 (x : Int) (h0 : 0 ≤ x) (h1 : x < 1000000000) : bits BinOp.and IntKind.u64 x x = x := by
  obtain ⟨n, rfl⟩ := Int.eq_ofNat_of_zero_le h0
  refine (bits_and_u64_nat n n (by omega) (by omega)).trans ?_
  rw [Nat.and_self]
theorem B5 : bits BinOp.andNot IntKind.u64 0 1073741823 = 0 := by decide

set_option maxRecDepth 100000 in
set_option maxHeartbeats 1000000 in
theorem nsec_any (b o : Nat) (ns : Int) (w : World) (h0 : 0 ≤ ns) (h1 : ns < 1000000000) (hc : w.cell? ⟨b, o, none⟩ = some (.int .u64 ns)) :
    Calls Yba.prog 11 #[.pointer (some ⟨b, o, none⟩)] w fun e w' => e = .returned (.int .i32 ns) ∧ w' = w := by
  have hb := B1 ns h0 h1
  go_enter Yba.func11, Yba.ntmps11
  go_wp2
  go_ret
  exact ⟨by first | rfl | (congr 2; unfold wrap32; omega), rfl⟩

set_option maxRecDepth 100000 in
set_option maxHeartbeats 1000000 in
theorem sec_any (b o : Nat) (ns s : Int) (w : World) (h0 : 0 ≤ ns) (h1 : ns < 1000000000) (hc : w.cell? ⟨b, o, none⟩ = some (.int .u64 ns)) (hd : w.cell? ⟨b, o + 1, none⟩ = some (.int .i64 s)) :
    Calls Yba.prog 17 #[.pointer (some ⟨b, o, none⟩)] w fun e w' => e = .returned (.int .i64 s) ∧ w' = w := by
  have hb := B2 ns h0 h1
  go_enter Yba.func17, Yba.ntmps17
  go_wp2
  go_ret
  exact ⟨rfl, rfl⟩

set_option maxRecDepth 100000 in
set_option maxHeartbeats 1000000 in
/-- 'addSec' of a time without a monotonic reading, its seconds 0. -/
theorem addSec_any (b : Nat) (ns d : Int) (w : World) (h0 : 0 ≤ ns) (h1 : ns < 1000000000) (hd0 : -9223372036854775808 ≤ d) (hd1 : d ≤ 9223372036854775807) (hc : w.cell? ⟨b, 0, none⟩ = some (.int .u64 ns)) (hd : w.cell? ⟨b, 1, none⟩ = some (.int .i64 0)) (hf : w.frozen? ⟨b, 1, none⟩ = false) :
    Calls Yba.prog 12 #[.pointer (some ⟨b, 0, none⟩), .int .i64 d] w fun e w' => e = .returned (.tuple #[]) ∧ w' = w.setCell ⟨b, 1, none⟩ (.int .i64 d) := by
  have hb := B2 ns h0 h1
  by_cases hp : 0 < d
  · go_enter Yba.func12, Yba.ntmps12
    go_wp2
    go_end0
    exact ⟨rfl, rfl⟩
  · go_enter Yba.func12, Yba.ntmps12
    go_wp2
    go_end0
    exact ⟨rfl, rfl⟩

set_option maxRecDepth 100000 in
set_option maxHeartbeats 2000000 in
/-- 'time.Time{}.Add(d)'. -/
theorem add_any (d : Int) (w : World) (hd0 : -9223372036854775808 ≤ d) (hd1 : d ≤ 9223372036854775807) :
    Calls Yba.prog 4 #[.agg #[.int .u64 0, .int .i64 0, .pointer none], .int .i64 d] w fun e w' => ∃ ns s, e = .returned (.agg #[.int .u64 ns, .int .i64 s, .pointer none]) ∧ 0 ≤ ns ∧ ns < 1000000000 ∧ w.grownBy w' none := by
  obtain ⟨q, HQ⟩ : ∃ q, Hid (d.tdiv 1000000000 = q) := ⟨_, (rfl : d.tdiv 1000000000 = d.tdiv 1000000000)⟩
  obtain ⟨r, HR⟩ : ∃ r, Hid (d.tmod 1000000000 = r) := ⟨_, (rfl : d.tmod 1000000000 = d.tmod 1000000000)⟩
  have hq := HQ.out
  have hr := HR.out
  have hr0 : -1000000000 < r := by
    rw [← hr]; have := Int.lt_tmod_of_pos d (by decide : (0 : Int) < 1000000000); omega
  have hr1 : r < 1000000000 := by rw [← hr]; exact Int.tmod_lt_of_pos d (by decide)
  have hq0 : -9223372037 ≤ q := by
    have := Int.mul_tdiv_add_tmod d 1000000000
    rw [hq, hr] at this; omega
  have hq1 : q ≤ 9223372037 := by
    have := Int.mul_tdiv_add_tmod d 1000000000
    rw [hq, hr] at this; omega
  have b5 := B5
  have b1 : bits BinOp.and IntKind.u64 0 1073741823 = 0 := by decide
  by_cases hneg : r < 0
  · have hb := B2 (r + 1000000000) (by omega) (by omega)
    have hb3 := B3 (r + 1000000000) (by omega) (by omega)
    go_enter Yba.func4, Yba.ntmps4
    go_wp2_with (first
      | (go_at_call 11; refine (nsec_any _ _ 0 _ (by decide) (by decide) ?_).mono ?_; simp; rintro e w' ⟨rfl, rfl⟩)
      | (go_at_call 12; refine (addSec_any _ (r + 1000000000) _ _ ?_ ?_ ?_ ?_ ?_ ?_ ?_).mono ?_; omega; omega; omega; omega; simp; simp; simp; rintro e w' ⟨rfl, rfl⟩))
    refine bodyPost_ret (results_cell_row (P := Yba.prog) rfl _ _ (w.heap.size + 1) 27 _ (0, 0) _ rfl (two_new w _ _).1 Yba.underlying27 rfl Yba.size27) rfl ?_
    exact ⟨_, _, rfl, by omega, by omega, grownBy.alloc (World.grownBy_alloc _ _ _) _⟩
  · have hb := B2 r (by omega) (by omega)
    have hb3 := B3 r (by omega) (by omega)
    go_enter Yba.func4, Yba.ntmps4
    go_wp2_with (first
      | (go_at_call 11; refine (nsec_any _ _ 0 _ (by decide) (by decide) ?_).mono ?_; simp; rintro e w' ⟨rfl, rfl⟩)
      | (go_at_call 12; refine (addSec_any _ r _ _ ?_ ?_ ?_ ?_ ?_ ?_ ?_).mono ?_; omega; omega; omega; omega; simp; simp; simp; rintro e w' ⟨rfl, rfl⟩))
    refine bodyPost_ret (results_cell_row (P := Yba.prog) rfl _ _ (w.heap.size + 1) 27 _ (0, 0) _ rfl (two_new w _ _).1 Yba.underlying27 rfl Yba.size27) rfl ?_
    exact ⟨_, _, rfl, by omega, by omega, grownBy.alloc (World.grownBy_alloc _ _ _) _⟩

set_option maxRecDepth 100000 in
set_option maxHeartbeats 2000000 in
/-- 'Equal' of one time with itself. -/
theorem equal_same (ns s : Int) (w : World) (h0 : 0 ≤ ns) (h1 : ns < 1000000000) :
    Calls Yba.prog 8 #[.agg #[.int .u64 ns, .int .i64 s, .pointer none], .agg #[.int .u64 ns, .int .i64 s, .pointer none]] w fun e w' => e = .returned (.bool true) ∧ w.grownBy w' none := by
  have hb := B2 ns h0 h1
  have hb4 := B4 ns h0 h1
  go_enter Yba.func8, Yba.ntmps8
  go_wp2_with (first
    | (go_at_call 17; refine (sec_any _ _ ns s _ h0 h1 ?_ ?_).mono ?_; simp; simp; rintro e w' ⟨rfl, rfl⟩)
    | (go_at_call 11; refine (nsec_any _ _ ns _ h0 h1 ?_).mono ?_; simp; rintro e w' ⟨rfl, rfl⟩))
  go_ret
  exact ⟨rfl, grownBy.alloc (World.grownBy_alloc _ _ _) _⟩

set_option maxRecDepth 100000 in
set_option maxHeartbeats 2000000 in
/-- 'clock.Now': the lock is taken and given back. -/
theorem now_any (b : Nat) (ns s : Int) (cs : Array Value) (w : World) (hb : w.heap[b]? = some (.cells cs 48 (0, 0))) (d0 : cs[0]? = some (.int .i32 0)) (d2 : cs[2]? = some (.int .u64 ns)) (d3 : cs[3]? = some (.int .i64 s)) (d4 : cs[4]? = some (.pointer none)) :
    Calls Yba.prog 15 #[.pointer (some ⟨b, 0, none⟩)] w fun e w' => e = .returned (.agg #[.int .u64 ns, .int .i64 s, .pointer none]) ∧ w.grownBy w' none := by
  have c0 : w.cell? ⟨b, 0, none⟩ = some (.int .i32 0) := (cell_of_row w b 0 cs 48 (0, 0) hb).trans d0
  have c2 : w.cell? ⟨b, 2, none⟩ = some (.int .u64 ns) := (cell_of_row w b 2 cs 48 (0, 0) hb).trans d2
  have c3 : w.cell? ⟨b, 3, none⟩ = some (.int .i64 s) := (cell_of_row w b 3 cs 48 (0, 0) hb).trans d3
  have c4 : w.cell? ⟨b, 4, none⟩ = some (.pointer none) := (cell_of_row w b 4 cs 48 (0, 0) hb).trans d4
  have f0 : w.frozen? ⟨b, 0, none⟩ = false := frozen_of_row w b 0 cs 48 hb
  have hlt : b < w.heap.size := (Array.getElem?_eq_some_iff.1 hb).1
  have k0 : (w.alloc (.cells #[.int .u64 0, .int .i64 0, .pointer none] 27)).cell? ⟨b, 0, none⟩ = some (.int .i32 0) := cellG (World.grownBy_alloc _ _ none) (.inl rfl) c0
  have kf : (w.alloc (.cells #[.int .u64 0, .int .i64 0, .pointer none] 27)).frozen? ⟨b, 0, none⟩ = false := frozG (World.grownBy_alloc _ _ none) (.inl rfl) hlt f0
  have hne : b ≠ w.heap.size := Nat.ne_of_lt hlt
  have HB : Hid (w.heap[b]? = some (.cells cs 48 (0, 0))) := hb
  have H0 : Hid (cs[0]? = some (.int .i32 0)) := d0
  have HC0 : Hid (w.cell? ⟨b, 0, none⟩ = some (.int .i32 0)) := c0
  clear hb d0 d2 d3 d4
  go_enter_defers Yba.func15, Yba.ntmps15
  go_wp2_with (go_at_call 19; refine (lock_free Yba.muLib ⟨b, 0, none⟩ _ k0 kf).mono ?_; rintro e w' ⟨rfl, rfl⟩)
  have h1 := heap_setCell_same w b 0 cs 48 (.int .i32 1) HB.out
  have h2 : ((w.setCell ⟨b, 0, none⟩ (.int .i32 1)).alloc (.cells #[.int .u64 ns, .int .i64 s, .pointer none] 27)).heap[b]? = some (.cells (cs.setIfInBounds 0 (.int .i32 1)) 48 (0, 0)) := (Below.heap_alloc _ _ _ (by simpa using hlt)).trans h1
  refine leaves_cons (f := 20) (args := #[.pointer (some ⟨b, 0, none⟩)]) (by simp) (by simp [go_sem]) ?_
  refine (unlock_deferred Yba.muLib ⟨b, 0, none⟩ .returning _ ?_ ?_).mono ?_
  · refine (cell_of_row _ b 0 _ 48 (0, 0) h2).trans ?_
    have : 0 < cs.size := (Array.getElem?_eq_some_iff.1 H0.out).1
    simp [this]
  · exact frozen_of_row _ b 0 _ 48 h2
  rintro e u' w'' ⟨rfl, rfl, rfl⟩
  refine ⟨_, results_cell_row (P := Yba.prog) rfl _ _ w.heap.size 27 #[.int .u64 ns, .int .i64 s, .pointer none] (0, 0) _ rfl ((Below.heap_setCell _ _ _ _ (Ne.symm hne)).trans ?_) Yba.underlying27 rfl Yba.size27, rfl, ?_⟩
  · have := heap_alloc_new (w.setCell ⟨b, 0, none⟩ (.int .i32 1)) (.cells #[.int .u64 ns, .int .i64 s, .pointer none] 27)
    simpa using this
  · refine ⟨rfl, rfl, rfl, by simp, fun k hk _ => ?_⟩
    by_cases e : k = b
    · subst e
      rw [heap_setCell_same _ k 0 _ 48 (.int .i32 0) h2, HB.out]
      congr 2
      apply Array.ext_getElem?
      intro i
      by_cases e : i = 0
      · subst e
        have := (Array.getElem?_eq_some_iff.1 H0.out).1
        simp only [Array.getElem?_setIfInBounds, Array.size_setIfInBounds, this, if_true, H0.out]
      · simp [Ne.symm e]
    · exact (Below.heap_setCell _ _ _ _ e).trans ((Below.heap_alloc _ _ _ (by simpa using hk)).trans (Below.heap_setCell _ _ _ _ e))
end Go.Proofs.Ybulkazwu
