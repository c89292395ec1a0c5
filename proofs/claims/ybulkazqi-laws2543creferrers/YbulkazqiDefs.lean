import Derived.Test.YbulkazqiNote
import Derived.WalkLawsBesides
import Derived.Laws.CopyOwn
import Derived.Laws.Pointers
namespace Go.Proofs.Ybulkazqi
open Go.RowKit Go.Shelf Go.Bs

/-- 'zzs2543cref'. -/
def refOf (n : Nat) (b : Int) : Int := if b % (n + 3) = 0 then 8 else if b % (n + 3) = 1 then 2 else 9 + b % (n + 3) - 2

set_option maxRecDepth 100000 in
set_option maxHeartbeats 1000000 in
theorem cref_any (n : Nat) (hn : n ≤ 256) (b : Int) (h0 : 0 ≤ b) (h1 : b ≤ 255) (w : World) :
    Calls Yba.prog 14 #[.int .u8 b, .int .i64 n] w fun e w' => e = .returned (.int .i64 (refOf n b)) ∧ w' = w := by
  have hm0 : 0 ≤ b % ((n : Int) + 3) := Int.emod_nonneg _ (by omega)
  have hm1 : b % ((n : Int) + 3) < (n : Int) + 3 := Int.emod_lt_of_pos _ (by omega)
  obtain ⟨c, HC⟩ : ∃ c, Hid (c = b % ((n : Int) + 3)) := ⟨_, (rfl : b % ((n : Int) + 3) = b % ((n : Int) + 3))⟩
  have ht : b.tmod ((n : Int) + 3) = c := by rw [HC.out, Int.tmod_eq_emod_of_nonneg h0]
  have hR : Hid (refOf n b = if c = 0 then 8 else if c = 1 then 2 else 9 + c - 2) := by unfold refOf; rw [← HC.out]; rfl
  rw [← HC.out] at hm0 hm1
  by_cases e0 : c = 0
  · rw [e0] at ht hR
    go_enter Yba.func14, Yba.ntmps14
    go_wp2
    go_ret
    exact ⟨by rw [hR.out]; rfl, rfl⟩
  · by_cases e1 : c = 1
    · rw [e1] at ht hR
      go_enter Yba.func14, Yba.ntmps14
      go_wp2
      go_ret
      exact ⟨by rw [hR.out]; rfl, rfl⟩
    · go_enter Yba.func14, Yba.ntmps14
      go_wp2
      go_ret
      exact ⟨by rw [hR.out, if_neg e0, if_neg e1]; rfl, rfl⟩

def rAt (n : Nat) (rs : List Int) (i : Nat) : Int := if i < rs.length then refOf n (rs.getD i 0) else 2
def kdOf (k : Int) : Int := if k % 4 = 0 then 2 else if k % 4 = 1 then 4 else if k % 4 = 2 then 3 else 5
def elOf (n : Nat) (k : Int) (rs : List Int) : Int := if k % 4 = 0 then rAt n rs 0 else if k % 4 = 1 then rAt n rs 1 else 0
def kyOf (n : Nat) (k : Int) (rs : List Int) : Int := if k % 4 = 1 then rAt n rs 0 else 0
def fsOf (n : Nat) (k : Int) (rs : List Int) : List Int := if k % 4 = 2 then rs.map (refOf n) else []
/-- The ids that a drawn definition refers to. -/
def refsOf (n : Nat) (k : Int) (rs : List Int) : List Int := yields (kdOf k) (elOf n k rs) (kyOf n k rs) (fsOf n k rs)

/-- The result of 'zzs2543ctype'. -/
def TypeMade (w w' : World) (v : Value) (n : Nat) (k : Int) (rs : List Int) (me : Int) : Prop :=
  ∃ T FB, v = .pointer (some ⟨T, 0, none⟩) ∧ TypeIs w' T FB (kdOf k) (elOf n k rs) (kyOf n k rs) (fsOf n k rs) me ∧ Plain w' T ∧ Plain w' FB ∧ w.grownBy w' none

theorem typeMade_of {w w' : World} {T : Nat} {s m3 l6 f7 : Value} {n : Nat} {k : Int} {rs : List Int} {me kd el ky : Int} (hb : w'.heap[T]? = some (.cells #[.int .u8 kd, s, .int .i64 me, m3, .int .i64 el, .int .i64 ky, l6, f7] 82 (0, 0)))
    (hkd : kdOf k = kd) (hel : elOf n k rs = el) (hky : kyOf n k rs = ky) (hk : k % 4 ≠ 2) (hg : w.grownBy w' none) : TypeMade w w' (.pointer (some ⟨T, 0, none⟩)) n k rs me := by
  have hp : Plain w' T := ⟨_, _, _, hb, by decide, by decide⟩
  have h3 : kdOf k ≠ 3 := by unfold kdOf; rw [if_neg hk]; split <;> (try split) <;> decide
  exact ⟨T, T, rfl, ⟨by rw [cell_of_row w' T 2 _ 82 (0, 0) hb]; rfl, by rw [cell_of_row w' T 0 _ 82 (0, 0) hb, hkd]; rfl, by rw [cell_of_row w' T 4 _ 82 (0, 0) hb, hel]; rfl, by rw [cell_of_row w' T 5 _ 82 (0, 0) hb, hky]; rfl, fun h => absurd h h3, fun h => absurd h h3⟩, hp, hp, hg⟩
theorem two_new (w : World) (o1 o2 : Obj) : ((w.alloc o1).alloc o2).heap[w.heap.size + 1]? = some o2 ∧ w.grownBy ((w.alloc o1).alloc o2) none := by
  refine ⟨?_, grownBy.alloc (World.grownBy_alloc _ _ _) _⟩
  have := heap_alloc_new (w.alloc o1) o2
  simpa using this

/-- The fields' loop. -/
structure FL (w wr : World) (n : Nat) (k : Int) (rs : List Int) (me : Int) (rv : Value) (kk : Nat) : Prop where
  t : wr.heap[w.heap.size + 1]? = some (.cells #[.int .u8 3, .string ⟨#[]⟩, .int .i64 me, .int .i64 me, .int .i64 0, .int .i64 0, .int .i64 0, .slice (some ⟨w.heap.size + 1 + 1, 0, none⟩) rs.length rs.length] 82 (0, 0))
  f : ∃ cs, wr.heap[w.heap.size + 1 + 1]? = some (.cells cs 84 (0, 0)) ∧ cs.size = rs.length * 2 ∧ ∀ i, i < kk → cs[i * 2]? = some (.string ⟨#[]⟩) ∧ cs[i * 2 + 1]? = some (.int .i64 (refOf n (rs.getD i 0)))
  g : w.grownBy wr none

theorem FL.step {w wr : World} {n : Nat} {k : Int} {rs : List Int} {me : Int} {rv : Value} {kk : Nat} {r : Int} (h : FL w wr n k rs me rv kk) (hk : kk < rs.length) (hr : r = rs.getD kk 0) :
    FL w (((wr.setCell ⟨w.heap.size + 1 + 1, kk * 2, none⟩ (.string ⟨#[]⟩)).setCell ⟨w.heap.size + 1 + 1, kk * 2 + 1, none⟩ (.int .i64 (refOf n r))).drew) n k rs me rv (kk + 1) := by
  obtain ⟨cs, hcs, hsz, hp⟩ := h.f
  have h1 := heap_setCell_same wr (w.heap.size + 1 + 1) (kk * 2) cs 84 (.string ⟨#[]⟩) hcs
  have h2 := heap_setCell_same _ (w.heap.size + 1 + 1) (kk * 2 + 1) _ 84 (.int .i64 (refOf n r)) h1
  refine ⟨(Below.heap_setCell _ _ _ _ (by simp)).trans ((Below.heap_setCell _ _ _ _ (by simp)).trans h.t), ⟨_, h2, by simp [hsz], fun i hi => ?_⟩, grownBy.drew (grownBy.setCell (grownBy.setCell h.g (.inr (by simp; omega)) _) (.inr (by simp; omega)) _)⟩
  by_cases e : i = kk
  · subst e
    refine ⟨?_, ?_⟩
    · rw [Array.getElem?_setIfInBounds, if_neg (by omega), Array.getElem?_setIfInBounds, if_pos rfl, if_pos (by omega)]
    · rw [Array.getElem?_setIfInBounds, if_pos rfl, if_pos (by simp; omega), hr]
  · obtain ⟨p0, p1⟩ := hp i (by omega)
    refine ⟨?_, ?_⟩
    · rw [Array.getElem?_setIfInBounds, if_neg (by omega), Array.getElem?_setIfInBounds, if_neg (by omega)]; exact p0
    · rw [Array.getElem?_setIfInBounds, if_neg (by omega), Array.getElem?_setIfInBounds, if_neg (by omega)]; exact p1
theorem Yba.info84 : (Yba.prog.info? 84).map (fun i => (i.zero, i.size, i.bytes)) = some (some (.agg #[.string ⟨#[]⟩, .int .i64 0]), 2, 24) := by kernel_rfl


set_option maxRecDepth 100000 in
set_option maxHeartbeats 2000000 in
theorem ctype0 (n : Nat) (hn : n ≤ 256) (k : Int) (hk0 : 0 ≤ k) (rs : List Int) (hrs : ∀ r ∈ rs, 0 ≤ r ∧ r ≤ 255) (hl : rs.length ≤ 256) (me : Int) (rv : Value) (w : World) (hS : Sl (fun _ => True) w rv (u8s rs)) (hk : k % 4 = 0) :
    Calls Yba.prog 13 #[.agg #[.int .u8 k, rv], .int .i64 me, .int .i64 n] w fun e w' => ∃ v, e = .returned v ∧ TypeMade w w' v n k rs me := by
  have ht : k.tmod 4 = 0 := by rw [Int.tmod_eq_emod_of_nonneg hk0]; exact hk
  have HK : Hid (k % 4 = 0) := hk
  clear hk
  obtain ⟨a, cap, rfl, hcap, hmax, hnil, hcs⟩ := hS
  rw [u8s_length] at hcap ⊢
  cases rs with
  | nil =>
    clear hcs
    go_enter Yba.func13, Yba.ntmps13
    go_wp2
    go_ret
    exact ⟨_, rfl, typeMade_of (two_new w _ _).1 (by simp [kdOf, HK.out]) (by simp [elOf, rAt, HK.out]) (by simp [kyOf, HK.out]) (by rw [HK.out]; decide) (two_new w _ _).2⟩
  | cons r rs =>
    obtain ⟨b, off, rfl, _, hb, hc⟩ := hcs (by simp [u8s])
    have hc0 := hc 0 _ (u8s_get (r :: rs) 0 (by simp))
    simp at hc0
    have hr := hrs r (by simp)
    clear hc hcs hrs
    obtain ⟨m, Hm⟩ : ∃ m, Hid (rs.length = m) := ⟨_, (rfl : rs.length = rs.length)⟩
    simp only [List.length_cons] at hl hcap ⊢
    rw [Hm.out] at hl hcap ⊢
    go_enter Yba.func13, Yba.ntmps13
    go_wp2_with (go_at_call 14; refine (cref_any n hn r hr.1 hr.2 _).mono ?_; rintro e w' ⟨rfl, rfl⟩)
    go_ret
    exact ⟨_, rfl, typeMade_of (two_new w _ _).1 (by simp [kdOf, HK.out]) (by simp [elOf, rAt, HK.out]) (by simp [kyOf, HK.out]) (by rw [HK.out]; decide) (two_new w _ _).2⟩

set_option maxRecDepth 100000 in
set_option maxHeartbeats 2000000 in
theorem ctype1 (n : Nat) (hn : n ≤ 256) (k : Int) (hk0 : 0 ≤ k) (rs : List Int) (hrs : ∀ r ∈ rs, 0 ≤ r ∧ r ≤ 255) (hl : rs.length ≤ 256) (me : Int) (rv : Value) (w : World) (hS : Sl (fun _ => True) w rv (u8s rs)) (hk : k % 4 = 1) :
    Calls Yba.prog 13 #[.agg #[.int .u8 k, rv], .int .i64 me, .int .i64 n] w fun e w' => ∃ v, e = .returned v ∧ TypeMade w w' v n k rs me := by
  have ht : k.tmod 4 = 1 := by rw [Int.tmod_eq_emod_of_nonneg hk0]; exact hk
  have HK : Hid (k % 4 = 1) := hk
  clear hk
  obtain ⟨a, cap, rfl, hcap, hmax, hnil, hcs⟩ := hS
  rw [u8s_length] at hcap ⊢
  match rs with
  | [] =>
    clear hcs
    go_enter Yba.func13, Yba.ntmps13
    go_wp2
    go_ret
    exact ⟨_, rfl, typeMade_of (two_new w _ _).1 (by simp [kdOf, HK.out]) (by simp [elOf, rAt, HK.out]) (by simp [kyOf, rAt, HK.out]) (by rw [HK.out]; decide) (two_new w _ _).2⟩
  | [r] =>
    obtain ⟨b, off, rfl, _, hb, hc⟩ := hcs (by simp [u8s])
    have hc0 := hc 0 _ (u8s_get [r] 0 (by simp))
    simp at hc0
    have hr := hrs r (by simp)
    clear hc hcs hrs
    simp only [List.length_cons, List.length_nil] at hl hcap ⊢
    go_enter Yba.func13, Yba.ntmps13
    go_wp2_with (go_at_call 14; refine (cref_any n hn r hr.1 hr.2 _).mono ?_; rintro e w' ⟨rfl, rfl⟩)
    go_ret
    exact ⟨_, rfl, typeMade_of (two_new w _ _).1 (by simp [kdOf, HK.out]) (by simp [elOf, rAt, HK.out]) (by simp [kyOf, rAt, HK.out]) (by rw [HK.out]; decide) (two_new w _ _).2⟩
  | r :: r2 :: rs =>
    obtain ⟨b, off, rfl, _, hb, hc⟩ := hcs (by simp [u8s])
    have hc0 := hc 0 _ (u8s_get (r :: r2 :: rs) 0 (by simp))
    have hc1 := hc 1 _ (u8s_get (r :: r2 :: rs) 1 (by simp))
    simp at hc0 hc1
    have hr := hrs r (by simp)
    have hr2 := hrs r2 (by simp)
    clear hc hcs hrs
    obtain ⟨m, Hm⟩ : ∃ m, Hid (rs.length = m) := ⟨_, (rfl : rs.length = rs.length)⟩
    simp only [List.length_cons] at hl hcap ⊢
    rw [Hm.out] at hl hcap ⊢
    go_enter Yba.func13, Yba.ntmps13
    obtain ⟨a0, a1⟩ := hr
    obtain ⟨a2, a3⟩ := hr2
    go_wp2_with (go_at_call 14; refine (cref_any n hn _ ?_ ?_ _).mono ?_; assumption; assumption; rintro e w' ⟨rfl, rfl⟩)
    go_ret
    exact ⟨_, rfl, typeMade_of (two_new w _ _).1 (by simp [kdOf, HK.out]) (by simp [elOf, rAt, HK.out]) (by simp [kyOf, rAt, HK.out]) (by rw [HK.out]; decide) (two_new w _ _).2⟩

set_option maxRecDepth 100000 in
set_option maxHeartbeats 2000000 in
theorem ctype2 (n : Nat) (hn : n ≤ 256) (k : Int) (hk0 : 0 ≤ k) (rs : List Int) (hrs : ∀ r ∈ rs, 0 ≤ r ∧ r ≤ 255) (hl : rs.length ≤ 256) (me : Int) (rv : Value) (w : World) (hS : Sl (fun _ => True) w rv (u8s rs)) (hk : k % 4 = 2) :
    Calls Yba.prog 13 #[.agg #[.int .u8 k, rv], .int .i64 me, .int .i64 n] w fun e w' => ∃ v, e = .returned v ∧ TypeMade w w' v n k rs me := by
  obtain ⟨i0, hi, hz0, hz1, hz2⟩ := info_parts Yba.info84
  have ht : k.tmod 4 = 2 := by rw [Int.tmod_eq_emod_of_nonneg hk0]; exact hk
  have HK : Hid (k % 4 = 2) := hk
  clear hk
  obtain ⟨a, cap, rfl, hcap, hmax, hnil, hcs⟩ := hS
  rw [u8s_length] at hcap ⊢
  obtain ⟨m, Hm⟩ : ∃ m, Hid (rs.length = m) := ⟨_, (rfl : rs.length = rs.length)⟩
  rw [Hm.out] at hl hcap ⊢
  go_enter Yba.func13, Yba.ntmps13
  go_wp2_with (at_make; refine wpList_make_full _ rfl _ _ 80 rfl w.heap.size 84 i0 _ 2 Yba.underlying80 hi hz0 hz1 _ _ _ _ m rfl rfl rfl rfl ?b2 ?b3 (by simp; omega) ?_)
  case b2 => omega
  case b3 => unfold maxLen; omega
  intro w0 hown0 hgrow0
  have e1 : w0.heap[w.heap.size]? = some (.cells #[.int .u8 k, .slice a m cap] 46 (0, 0)) :=
    (hgrow0.block w.heap.size (by simp; omega) (by simp)).trans ((Below.heap_alloc _ _ _ (by simp)).trans (heap_alloc_new w _))
  have e2 : w0.heap[w.heap.size + 1]? = some (.cells #[.int .u8 3, .string ⟨#[]⟩, .int .i64 me, .int .i64 me, .int .i64 0, .int .i64 0, .int .i64 0, .slice none 0 0] 82 (0, 0)) :=
    (hgrow0.block (w.heap.size + 1) (by simp) (by simp)).trans (two_new w _ _).1
  have e3 : ∃ cs, w0.heap[w.heap.size + 1 + 1]? = some (.cells cs 84 (0, 0)) ∧ cs.size = m * 2 := by
    rcases hown0.2 with ⟨h', _⟩ | ⟨g', cap'', cur, h', hb, hg, hnc, hcm, hsz, htake⟩
    · simp at h'
    · simp only [Value.slice.injEq, Option.some.injEq, Addr.mk.injEq, and_true, true_and] at h'
      obtain ⟨rfl, rfl⟩ := h'
      exact ⟨cur, hg, hsz⟩
  have e4 : w.grownBy w0 none := grownBy.trans (two_new w _ _).2 hgrow0
  have d1 : w0.cell? ⟨w.heap.size, 1, none⟩ = some (.slice a m cap) := by rw [cell_of_row w0 _ 1 _ 46 (0, 0) e1]; rfl
  have d2 : w0.cell? ⟨w.heap.size + 1, 7, none⟩ = some (.slice none 0 0) := by rw [cell_of_row w0 _ 7 _ 82 (0, 0) e2]; rfl
  have z2 : w0.frozen? ⟨w.heap.size + 1, 7, none⟩ = false := frozen_of_row w0 _ 7 _ 82 e2
  have hF0 : Hid (FL w (w0.setCell ⟨w.heap.size + 1, 7, none⟩ (.slice (some ⟨w.heap.size + 1 + 1, 0, none⟩) m m)) n k rs me (.slice a m cap) 0) := by
    obtain ⟨cs, hcs', hsz'⟩ := e3
    refine ⟨?_, ⟨cs, (Below.heap_setCell _ _ _ _ (by simp)).trans hcs', by rw [Hm.out]; exact hsz', fun i hi => absurd hi (by omega)⟩, grownBy.inner e4 (grownBy.setCell (World.grownBy.refl _ _) (.inl rfl) _) (fun i hi => by cases hi; simp)⟩
    rw [heap_setCell_same w0 (w.heap.size + 1) 7 _ 82 _ e2, Hm.out]
    simp
  clear hown0 hgrow0 e1 e2 e3 e4
  go_wp2
  go_loopw [93] (fun si wr => ∃ kk : Nat, kk ≤ m ∧ si = .int .i64 kk ∧ FL w wr n k rs me (.slice a m cap) kk) (fun si _ => m - (intOf si).toNat)
  case atStart => exact ⟨0, Nat.zero_le _, rfl, hF0.out⟩
  case round =>
    clear hF0 d1 d2 z2
    obtain ⟨kk, hkm, rfl, hF⟩ := hrel
    by_cases hlt : kk < m
    · obtain ⟨b, off, rfl, _, hb, hc⟩ := hcs (fun e => by have := congrArg List.length e; rw [u8s_length, Hm.out] at this; simp at this; omega)
      obtain ⟨r, HR⟩ : ∃ r, Hid (r = rs.getD kk 0) := ⟨_, (rfl : rs.getD kk 0 = rs.getD kk 0)⟩
      have hmem : r ∈ rs := by
        rw [HR.out, List.getD_eq_getElem?_getD, List.getElem?_eq_getElem (by rw [Hm.out]; exact hlt)]
        exact List.getElem_mem _
      obtain ⟨hr0, hr1⟩ := hrs r hmem
      have hcr : wr.cell? ⟨b, off + kk, none⟩ = some (.int .u8 r) := by
        have := hc kk _ (u8s_get rs kk (by rw [Hm.out]; exact hlt))
        rw [← HR.out] at this
        exact cellG hF.g (.inl rfl) this
      obtain ⟨cs, hcs', hsz', hpre⟩ := hF.f
      have d7 : wr.cell? ⟨w.heap.size + 1, 7, none⟩ = some (.slice (some ⟨w.heap.size + 1 + 1, 0, none⟩) m m) := by
        have := hF.t
        rw [Hm.out] at this
        exact (cell_of_row wr _ 7 _ 82 (0, 0) this).trans rfl
      rw [Hm.out] at hsz'
      have f0 : ∃ u, wr.cell? ⟨w.heap.size + 1 + 1, kk * 2, none⟩ = some u := ⟨cs[kk * 2], (cell_of_row wr _ (kk * 2) cs 84 (0, 0) hcs').trans (by simp)⟩
      have f1 : ∃ u, wr.cell? ⟨w.heap.size + 1 + 1, kk * 2 + 1, none⟩ = some u := ⟨cs[kk * 2 + 1], (cell_of_row wr _ (kk * 2 + 1) cs 84 (0, 0) hcs').trans (by simp)⟩
      have z0 : wr.frozen? ⟨w.heap.size + 1 + 1, kk * 2, none⟩ = false := frozen_of_row wr _ _ cs 84 hcs'
      have z1 : wr.frozen? ⟨w.heap.size + 1 + 1, kk * 2 + 1, none⟩ = false := frozen_of_row wr _ _ cs 84 hcs'
      obtain ⟨u0, f0⟩ := f0
      obtain ⟨u1, f1⟩ := f1
      clear hc hcs hcap
      go_wp2_with fail
      go_region_held3 (fun w' => w'.cell? ⟨w.heap.size + 1, 7, none⟩ = some (.slice (some ⟨w.heap.size + 1 + 1, 0, none⟩) m m)) (first | assumption | go_keep)
        ((go_at_call 14; refine (cref_any n hn _ ?_ ?_ _).mono ?_; assumption; assumption; rintro e w' ⟨rfl, rfl⟩))
      go_wp2
      go_roundw
      case rel => exact ⟨kk + 1, by omega, by go_num, hF.step (by rw [Hm.out]; exact hlt) HR.out⟩
      case measure => simp [intOf]; omega
    · obtain rfl : kk = m := by omega
      go_wp2
      go_ret
      obtain ⟨cs, hcs', hsz', hpre⟩ := hF.f
      have hT' := hF.t
      refine ⟨_, rfl, w.heap.size + 1, w.heap.size + 1 + 1, rfl, ?_, ⟨_, _, _, hF.t, by decide, by decide⟩, ⟨_, _, _, hcs', by decide, by decide⟩, hF.g⟩
      have hfs : fsOf n k rs = rs.map (refOf n) := by simp [fsOf, HK.out]
      have h3 : kdOf k = 3 := by simp [kdOf, HK.out]
      refine ⟨by rw [cell_of_row wr _ 2 _ 82 (0, 0) hT']; rfl, by rw [cell_of_row wr _ 0 _ 82 (0, 0) hT', h3]; rfl, by rw [cell_of_row wr _ 4 _ 82 (0, 0) hT']; simp [elOf, HK.out], by rw [cell_of_row wr _ 5 _ 82 (0, 0) hT']; simp [kyOf, HK.out], fun _ => by rw [cell_of_row wr _ 7 _ 82 (0, 0) hT', hfs]; simp, fun _ i hi => ?_⟩
      rw [hfs] at hi ⊢
      simp only [List.length_map] at hi
      obtain ⟨p0, p1⟩ := hpre i (by rw [← Hm.out]; exact hi)
      refine ⟨by rw [cell_of_row wr _ _ cs 84 (0, 0) hcs', p0]; rfl, by rw [cell_of_row wr _ _ cs 84 (0, 0) hcs', p1]; simp [hi]⟩

set_option maxRecDepth 100000 in
set_option maxHeartbeats 2000000 in
theorem ctype3 (n : Nat) (k : Int) (hk0 : 0 ≤ k) (rs : List Int) (me : Int) (rv : Value) (w : World) (hS : Sl (fun _ => True) w rv (u8s rs)) (hk : k % 4 = 3) :
    Calls Yba.prog 13 #[.agg #[.int .u8 k, rv], .int .i64 me, .int .i64 n] w fun e w' => ∃ v, e = .returned v ∧ TypeMade w w' v n k rs me := by
  have ht : k.tmod 4 = 3 := by rw [Int.tmod_eq_emod_of_nonneg hk0]; exact hk
  have HK : Hid (k % 4 = 3) := hk
  clear hk
  obtain ⟨a, cap, rfl, hcap, hmax, hnil, hcs⟩ := hS
  rw [u8s_length] at hcap ⊢
  clear hcs
  obtain ⟨m, Hm⟩ : ∃ m, Hid (rs.length = m) := ⟨_, (rfl : rs.length = rs.length)⟩
  rw [Hm.out] at hcap ⊢
  go_enter Yba.func13, Yba.ntmps13
  go_wp2
  go_ret
  exact ⟨_, rfl, typeMade_of (two_new w _ _).1 (by simp [kdOf, HK.out]) (by simp [elOf, HK.out]) (by simp [kyOf, HK.out]) (by rw [HK.out]; decide) (two_new w _ _).2⟩

theorem ctype_any (n : Nat) (hn : n ≤ 256) (k : Int) (hk0 : 0 ≤ k) (rs : List Int) (hrs : ∀ r ∈ rs, 0 ≤ r ∧ r ≤ 255) (hl : rs.length ≤ 256) (me : Int) (rv : Value) (w : World) (hS : Sl (fun _ => True) w rv (u8s rs)) : Calls Yba.prog 13 #[.agg #[.int .u8 k, rv], .int .i64 me, .int .i64 n] w fun e w' => ∃ v, e = .returned v ∧ TypeMade w w' v n k rs me := by
  have : k % 4 = 0 ∨ k % 4 = 1 ∨ k % 4 = 2 ∨ k % 4 = 3 := by omega
  rcases this with h | h | h | h
  · exact ctype0 n hn k hk0 rs hrs hl me rv w hS h
  · exact ctype1 n hn k hk0 rs hrs hl me rv w hS h
  · exact ctype2 n hn k hk0 rs hrs hl me rv w hS h
  · exact ctype3 n k hk0 rs me rv w hS h
end Go.Proofs.Ybulkazqi
