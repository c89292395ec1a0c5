/-
  The proof of Rows.LawS2542ADropFirstSaid: the frame as the kit's shell lays it, the walk filled by contracts of the callees.
-/
import Derived.Test.YbulkazpuOther
import Derived.WalkKit
import Derived.ProofKit
import Derived.OpenShut
import Derived.ShutString
import Derived.ChangeOld
import Derived.Below
import Derived.WalkSmall
namespace Go.Proofs.Ybulkazpu.lawS2542ADropFirst
open Go.ChangeShapes Go.WideShapes Go.ChangeAt Go.RowKit
open Go.Bs
open Go.ChangeMaps (open_string shut_string)
set_option linter.unusedVariables false

theorem own : ownKnob Yba.prog.godebug = none := by kernel_rfl
theorem laidOut : laidOutB Yba.prog = true := by kernel_rfl

/-- WHAT THE WALK IS TOLD OF A SLICE OF INTEGERS THAT CAME IN: it is nil; or it leads to a row of 'cap' cells, the numbers 'zs' (the first 'len' are its elements, the rest its spare room), each fitting its kind. -/
def IsRow (k : IntKind) (w : World) (a : Option Addr) (len cap : Nat) (zs : List Int) : Prop :=
  (a = none ∧ len = 0 ∧ cap = 0 ∧ zs = []) ∨
  ∃ x, a = some x ∧ len ≤ cap ∧ cap ≤ maxLen ∧ zs.length = cap ∧ (∀ i, i < zs.length → w.cell? (x.add i) = some (.int k (zs.getD i 0))) ∧ ∀ n ∈ zs, (Lit.int k n).wf = true

/-- A slice of bytes that came in, as the walks read it. -/
theorem isRow_sl {w : World} {a : Option Addr} {len cap : Nat} {zs : List Int} (h : IsRow .u8 w a len cap zs) : Sl (· < w.heap.size) w (.slice a len cap) (u8s (zs.take len)) := by
  rcases h with ⟨rfl, rfl, rfl, rfl⟩ | ⟨x, rfl, hlc, hm, hz, hc, _⟩
  · exact Sl.nil _ _
  · have hl : (u8s (zs.take len)).length = len := by rw [u8s_length, List.length_take]; omega
    refine ⟨some x, cap, by rw [hl], by omega, hm, (fun h => by cases h), fun hne => ?_⟩
    have hp : 0 < len := by
      rcases Nat.eq_zero_or_pos len with h0 | h0
      · subst h0; simp [u8s] at hne
      · exact h0
    obtain ⟨b, off, rfl, hc'⟩ := ints_at hc (by omega)
    refine ⟨b, off, rfl, World.block_lt_of_cell? _ _ (hc' 0 (by omega)), World.block_lt_of_cell? _ _ (hc' 0 (by omega)), fun i u hu => ?_⟩
    have hi : i < len := by have := (List.getElem?_eq_some_iff.1 hu).1; omega
    have : (u8s (zs.take len))[i]? = some (.int .u8 (zs.getD i 0)) := by
      simp [u8s, hi, show i < zs.length by omega]
    rw [this] at hu
    obtain rfl := Option.some.inj hu
    exact hc' i (by omega)

theorem enc_singles (zs : List Int) : enc false (zs.map (fun z => [z])) = zs := by
  unfold enc
  induction zs with
  | nil => rfl
  | cons x xs ih => simpa using ih

theorem drewNSl {ok : Nat → Prop} {w : World} {v : Value} {cs : List Value} (h : Sl ok w v cs) (n : Nat) : Sl ok (w.drewN n) v cs := h

/-! ### STEP 1: THE WALK -/
set_option maxRecDepth 100000 in
set_option maxHeartbeats 1600000 in
theorem walk (a0 : Option Addr) (len0 cap0 : Nat) (z0 : List Int) (w : World) (w0 : IsRow .u8 w a0 len0 cap0 z0) :
    Calls Yba.prog 3 #[.slice a0 len0 cap0] w fun e w' => e = .returned (.bool true) ∧ Below w.heap.size w w' := by
  have hS := isRow_sl w0
  clear w0
  obtain ⟨a', cap', hv, hcap, hmax, hcs⟩ := hS.shape
  rw [u8s_length] at hv hcap hcs
  simp only [Value.slice.injEq] at hv
  obtain ⟨rfl, hln, rfl⟩ := hv
  unfold maxLen at hmax
  obtain ⟨zs, HZ⟩ : ∃ zs, Hid (zs = z0.take len0) := ⟨_, rfl⟩
  rw [← HZ.out] at hS hcap hcs hln
  subst hln
  by_cases hbig : 1024 < zs.length
  · go_enter Yba.func3, Yba.ntmps3
    go_wp2
    go_ret
    exact ⟨rfl, Below.refl _ _⟩
  · have hs0 := hS.mono (ok' := (· ≠ w.heap.size)) (fun b hb _ => by omega)
    go_enter Yba.func3, Yba.ntmps3
    go_wp2_with fail
    refine (other_any w.heap.size (w.heap.size + 1) false (.slice none 0 0) (.slice a0 zs.length cap0) [] [] zs _ (by simp; omega) (by omega) (by simp [go_sem]) (by simp [go_sem]) (by simp [go_sem]) (by simp [go_sem]) (by simp [go_sem]) (by simp [go_sem]) (by simp [go_sem]) ((hs0.alloc _).alloc _) (by omega) (Sl.nil _ _) (Sls.nil _ _) (by simp) (by simp)).mono ?_
    rintro e w1 ⟨out, rfl, eIn, dIn, c, k3, hD, hC, k4, hg, hcase⟩
    have hbel : Below w.heap.size w w1 := ((Below.refl _ _).alloc (Nat.le_refl _) _).alloc (by simp) _ |>.grown hg (by simp; omega) (fun k hk => by cases hk; exact Nat.le_refl _)
    have hs1 : Sl (· < w.heap.size) w1 (.slice a0 zs.length cap0) (u8s zs) := hS.kept hbel.size (fun k hk _ => hbel.block k hk)
    obtain ⟨da, dcap, rfl, hd1, hd2, hd3⟩ := hD.shape
    obtain ⟨db, doff, rfl, _, _, hd4⟩ := hd3 (by simp)
    have kd : w1.cell? ⟨db, doff, none⟩ = some c := by have := hd4 0 c rfl; simpa using this
    simp only [List.length_cons, List.length_nil] at hd1 k3
    clear hd3 hd4 hD
    obtain ⟨ca, ccap, rfl, hc1, hc2, _⟩ := hC.shape
    obtain ⟨oa, on, oc, rfl⟩ : ∃ oa on oc, out = .slice oa on oc := by
      rcases hcase with ⟨_, _, ho⟩ | ⟨_, _, _, _, _, _, _, _, ho⟩
      · obtain ⟨oa, oc, e, _⟩ := ho.shape
        exact ⟨oa, _, oc, e⟩
      · obtain ⟨oa, oc, e, _⟩ := ho.shape
        exact ⟨oa, _, oc, e⟩
    rw [u8s_length] at hC kd hc1
    clear hg hs0 hS hcs
    cases zs with
    | nil =>
      rcases hcase with ⟨_, rfl, ho⟩ | ⟨d, ds, _, _, hd, _⟩
      · go_wp2_with fail
        refine (eq_same _ _ _ _ [] _ hC hs1).mono ?_
        rintro e w2 ⟨rfl, n, rfl⟩
        go_wp2_with fail
        refine (eq_same (fun b => b ≠ w.heap.size) (fun _ => True) (.slice oa on oc) (.slice (some ⟨w1.heap.size, 0, none⟩) 1 1) [0] _ ?_ ?_).mono ?_
        · exact (drewNSl ho _).alloc _
        · exact Sl.lit (w1.drewN n) #[.int .u8 0] 5 trivial (by simp [maxLen])
        rintro e w2 ⟨rfl, n', rfl⟩
        go_wp2
        go_ret
        exact ⟨rfl, below_drewN ((below_drewN hbel n).alloc hbel.size _) n'⟩
      · simp [decoded] at hd
    | cons z zt =>
      rcases hcase with ⟨hd, _⟩ | ⟨d, ds, rec, rs, hd, he1, he2, he3, ho⟩
      · simp [decoded] at hd
      · simp only [decoded, List.map_cons, Bool.false_eq_true, if_false, List.cons.injEq] at hd
        obtain ⟨rfl, rfl⟩ := hd
        rw [enc_singles] at ho
        obtain ⟨ea, ecap, rfl, hx1, hx2, hx3⟩ := he1.shape
        obtain ⟨eb, eoff, rfl, _, _, hx4⟩ := hx3 (by simp)
        have ke : w1.cell? ⟨eb, eoff, none⟩ = some rec := by have := hx4 0 rec rfl; simpa using this
        simp only [List.length_cons, List.length_nil] at hx1 k4
        obtain ⟨ra, rcap, rfl, hr1, hr2, _⟩ := he2.shape
        have hrl : rs.length = zt.length := by have := he3.1; simpa using this
        rw [hrl] at ke hr1
        obtain ⟨b, off, rfl, hn, hp1, hp2, hT, hT0⟩ := Sl.tail (show Sl _ w1 (.slice a0 (zt.length + 1) cap0) (.int .u8 z :: u8s zt) from hs1)
        rw [u8s_length] at hT hp1
        unfold maxLen at hp2
        clear hx3 hx4 he1 he2 he3 hn hrl
        simp only [List.length_cons] at hC kd hc1 hs1 hcap hbig ⊢
        by_cases hcap1 : cap0 = 1
        · subst hcap1
          obtain rfl : zt = [] := List.eq_nil_of_length_eq_zero (by omega)
          simp only [List.length_nil] at hC kd hs1 ke ⊢
          go_wp2_with fail
          refine (eq_same _ _ _ _ [z] _ hC hs1).mono ?_
          rintro e w2 ⟨rfl, n, rfl⟩
          go_wp2_with fail
          refine (eq_same _ _ _ _ [] _ (drewNSl ho n) (drewNSl (hT0 rfl _) n)).mono ?_
          rintro e w2 ⟨rfl, n', rfl⟩
          go_wp2
          go_ret
          exact ⟨rfl, below_drewN hbel _⟩
        · go_wp2_with fail
          refine (eq_same _ _ _ _ (z :: zt) _ hC hs1).mono ?_
          rintro e w2 ⟨rfl, n, rfl⟩
          go_wp2_with fail
          refine (eq_same _ _ _ _ zt _ (drewNSl ho n) (drewNSl hT n)).mono ?_
          rintro e w2 ⟨rfl, n', rfl⟩
          go_wp2
          go_ret
          exact ⟨rfl, below_drewN hbel _⟩

/-! ### THE ROW's STEP: WRITTEN OUT: LEAVE IT -/
set_option maxRecDepth 100000 in
theorem lifted (os : Os) (started : os.Started) (H : Type) (enc : TypeId × Value → H) :
    ReturnsInHanded {} Yba.checked os 3 .any (Rows.lawS2542ADropFirstSpec.pre6 enc Yba.prog Yba.f3 Rows.lawS2542ADropFirstRow.domain false) (Rows.lawS2542ADropFirstSpec.post enc Yba.prog Yba.f3 false true false false) := by
  refine returnsInHanded_of_change (C := Yba.checked) own started (by kernel_rfl) Yba.func3
    (ChangeSpec.witness6 (enc := enc) (C := Yba.checked) false ⟨#[], #[.slice none 0 0], []⟩ 8 (by kernel_rfl) (by kernel_rfl) (by kernel_rfl) (by kernel_rfl)) ?_
  intro W base args ds gs before hval0 hW hcnd _
  have hval : ∀ (j : Nat) t v, Yba.f3.params[j]? = some t → args[j]? = some v → Value.okWide Yba.prog W .any base t v := hval0
  have hW' := hW
  obtain ⟨p, q, hA0, hV, rfl, hfz, hnd⟩ := hW
  have hA : DataW.TrodAll enc Yba.prog W 0 (fun _ => true) true Yba.f3.params.toList args.toList ds p := hA0
  rw [Yba.params3] at hA hval
  obtain ⟨v0, vs0, d0, ds0, p0, q0, hargs, rfl, rfl, h0, r0⟩ := trodAll_cons hA
  obtain ⟨rfl, rfl, rfl⟩ := trodAll_nil r0
  obtain rfl : args = #[v0] := by cases args; simp_all
  obtain ⟨rfl, rfl⟩ := trodVars_none hV
  obtain ⟨a0, len0, cap0, rfl⟩ := okWide_slice Yba.underlying22 (hval 0 22 v0 rfl rfl)
  have k0 := h0
  have lt0 : ∀ x ∈ p0, x.block < W.heap.size := by obtain ⟨m, hm⟩ := k0; exact DataW.trod_lt m _ _ _ hm
  obtain ⟨z0, w0⟩ : ∃ zs, IsRow .u8 W a0 len0 cap0 zs := by
    obtain ⟨fuel, hf⟩ := h0
    rcases open_ints Yba.underlying22 Yba.underlying5 (by kernel_rfl) hf with ⟨hcs, _⟩ | ⟨x, l, c, zs, hcs, _, hl, hm, hz, _, hcell, hwz⟩
    · simp [Value.cells] at hcs
      obtain ⟨rfl, rfl, rfl⟩ := hcs
      exact ⟨[], .inl ⟨rfl, rfl, rfl, rfl⟩⟩
    · simp [Value.cells] at hcs
      obtain ⟨rfl, rfl, rfl⟩ := hcs
      exact ⟨zs, .inr ⟨_, rfl, hl, hm, by simpa using hz, hcell, hwz⟩⟩
  clear hA0 hval0
  refine (walk a0 len0 cap0 z0 W w0).mono fun e W' ⟨he, bel⟩ => ?_
  subst he
  exact ⟨_, rfl, _, _, _, [], _, [], hW', trodAll_mk1 (shut_bool Yba.underlying4 _), (trodAll_cons_mk (Below.trod laidOut (by kernel_rfl) (of_decide_eq_true (by kernel_rfl)) k0 bel lt0) trodAll_mk0), rfl, bel.frame _, fun h => by cases h⟩

theorem over : Rows.lawS2542ADropFirstRow.holds Yba.pinned (OpenSpec.ofChange Rows.lawS2542ADropFirstSpec) :=
  OpenClaim.holds_of_wide 3 Yba.f3 rfl rfl rfl rfl rfl rfl rfl ⟨rfl, rfl, rfl, rfl, rfl⟩ rfl rfl rfl rfl rfl (by kernel_rfl) Yba.func3 (by kernel_rfl)
    (of_decide_eq_true (by kernel_rfl)) (by unfold Func.isWrapper; first | (rw [if_pos (by decide +kernel)]; kernel_rfl) | (rw [if_neg (by decide +kernel)]; exact ⟨rfl, rfl⟩))
    (fun os started H enc _ => lifted os started H enc)

/-- ████ THE STATEMENT ████ -/
theorem proved : Rows.LawS2542ADropFirstSaid := over
#print axioms proved
end Go.Proofs.Ybulkazpu.lawS2542ADropFirst
