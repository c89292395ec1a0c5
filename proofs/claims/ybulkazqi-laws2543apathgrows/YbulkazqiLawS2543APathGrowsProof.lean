import Derived.Test.YbulkazqiPath
import Derived.WalkSmall
import Derived.LaidEql
import Derived.ProofKit
import Derived.OpenShut
import Derived.ShutString
import Derived.ChangeOld
import Derived.Below
import Derived.SliceStrings
namespace Go.Proofs.Ybulkazqi.lawS2543APathGrows
open Go.ChangeShapes Go.WideShapes Go.ChangeAt Go.RowKit
open Go.Bs
set_option linter.unusedVariables false

theorem own : ownKnob Yba.prog.godebug = none := by kernel_rfl
theorem laidOut : laidOutB Yba.prog = true := by kernel_rfl

/-- A slice of strings that came in, as the walks read it. -/
theorem strings_sl {w : World} {a : Addr} {len cap : Nat} {ss : List ByteArray} (hl : len ≤ cap) (hm : cap ≤ maxLen) (hz : ss.length = cap) (hc : ∀ i, i < ss.length → w.cell? (a.add i) = some (.string (ss.getD i ByteArray.empty))) :
    Sl (· < w.heap.size) w (.slice (some a) len cap) (strs (ss.take len)) := by
  have hln : (strs (ss.take len)).length = len := by rw [strs_length, List.length_take]; omega
  refine ⟨some a, cap, by rw [hln], by omega, hm, (fun h => by cases h), fun hne => ?_⟩
  have hp : 0 < len := by
    rcases Nat.eq_zero_or_pos len with h0 | h0
    · subst h0; simp [strs] at hne
    · exact h0
  obtain ⟨b, off, spot⟩ := a
  have hspot : spot = none := by simpa [Addr.add] using World.cell?_spot (hc 0 (by omega))
  subst hspot
  have hc' : ∀ r, r < ss.length → w.cell? ⟨b, off + r, none⟩ = some (.string (ss.getD r ByteArray.empty)) := fun r hr => by rw [← Go.WideShapes.add_plain]; exact hc r hr
  refine ⟨b, off, rfl, World.block_lt_of_cell? _ _ (hc' 0 (by omega)), World.block_lt_of_cell? _ _ (hc' 0 (by omega)), fun i u hu => ?_⟩
  have hi : i < len := by have := (List.getElem?_eq_some_iff.1 hu).1; omega
  have : (strs (ss.take len))[i]? = some (.string (ss.getD i ByteArray.empty)) := by
    simp [strs, hi, show i < ss.length by omega]
  rw [this] at hu
  obtain rfl := Option.some.inj hu
  exact hc' i (by omega)

theorem Yba.comp23 : (Yba.prog.info? 23).map (·.comparable) = some true := by kernel_rfl
theorem Yba.some28 : (Yba.prog.info? 28).isSome = true := by kernel_rfl

/-- 'got != e' of one pointer twice. -/
theorem neq_same (w : World) (a : Addr) : (binOp .neq 26 (.iface 23 (.pointer (some a))) (.iface 23 (.pointer (some a)))).run Yba.prog w = .ok (.bool false) w := by
  obtain ⟨i, hi, hc⟩ := Option.map_eq_some_iff.1 Yba.comp23
  obtain ⟨j, hj⟩ := Option.isSome_iff_exists.1 Yba.some28
  simp only [binOp]
  simp [Op.equal, Op.maxDepth, run_equalIn_iface_ptr_same w 9998 a Yba.underlying26 Yba.underlying23 hi hc hj]

/-- 'm.err != nil', m.err nil. -/
theorem neq_nils (w : World) : (binOp .neq 26 .nilIface .nilIface).run Yba.prog w = .ok (.bool false) w := by
  have h : ∀ d : Nat, (Op.equalIn (d + 1) 26 .nilIface .nilIface).run Yba.prog w = .ok true w := fun d => by simp [Op.equalIn, run_underlying Yba.underlying26]
  simp only [binOp]
  simp [Op.equal, Op.maxDepth, h 9999]

set_option maxRecDepth 100000 in
set_option maxHeartbeats 1600000 in
theorem walk (v0 v1 : Value) (pre parts : List ByteArray) (w : World) (h0 : Sl (· < w.heap.size) w v0 (strs pre)) (h1 : Sl (· < w.heap.size) w v1 (strs parts)) :
    Calls Yba.prog 3 #[v0, v1] w fun e w' => e = .returned (.bool true) ∧ Below w.heap.size w w' := by
  obtain ⟨a0, cap0, rfl, hcap0, hmax0, hcs0⟩ := h0.shape
  obtain ⟨a1, cap1, rfl, hcap1, hmax1, hcs1⟩ := h1.shape
  rw [strs_length] at hcap0 hcs0 h0
  rw [strs_length] at hcap1 hcs1 h1
  rw [strs_length, strs_length]
  unfold maxLen at hmax0 hmax1
  by_cases hb0 : 1024 < pre.length
  · go_enter Yba.func3, Yba.ntmps3
    go_wp2
    go_ret
    exact ⟨rfl, Below.refl _ _⟩
  by_cases hb1 : 1024 < parts.length
  · go_enter Yba.func3, Yba.ntmps3
    go_wp2
    go_ret
    exact ⟨rfl, Below.refl _ _⟩
  go_enter Yba.func3, Yba.ntmps3
  go_wp2_with fail
  refine (copy_any _ _ pre _ h0 (by omega)).mono ?_
  rintro e w1 ⟨pv, rfl, hown1, hg1⟩
  obtain ⟨pa, pc, rfl⟩ := owns_form hown1
  have hsz1 := hg1.size
  have hne1 : (Value.slice pa pre.length pc).ownBlock ≠ some w1.heap.size := fun e => by have := (hown1.lt _ e).2; omega
  go_wp2_with fail
  go_loopw [28] (fun si wr => ∃ (k : Nat) (pv : Value), k ≤ parts.length ∧ si = .int .i64 k ∧ wr.cell? ⟨w1.heap.size, 0, none⟩ = some pv ∧ wr.cell? ⟨w1.heap.size, 1, none⟩ = some .nilIface ∧ wr.frozen? ⟨w1.heap.size, 0, none⟩ = false ∧
      wr.ownsRow w.heap.size 9 1 pv (pre.length + k) (strs (pre ++ parts.take k)) ∧ pv.ownBlock ≠ some w1.heap.size ∧ Below w.heap.size w wr)
    (fun si _ => parts.length - (intOf si).toNat)
  case atStart =>
    refine ⟨0, _, Nat.zero_le _, rfl, by simp [go_sem], by simp [go_sem], by simp [go_sem], ?_, hne1, (grownBy.below hg1).alloc hsz1 _⟩
    simpa using hown1.alloc _
  case round =>
    obtain ⟨k, pv, hk, rfl, m0, m1, z0, hown, hne, hbel⟩ := hrel
    have hsz := hbel.size
    by_cases hlt : k < parts.length
    · obtain ⟨b, off, rfl, _, hb, hc⟩ := hcs1 (by omega)
      obtain ⟨s, HS⟩ : ∃ s, Hid (s = parts[k]) := ⟨parts[k], (rfl : parts[k] = parts[k])⟩
      have hcx : wr.cell? ⟨b, off + k, none⟩ = some (.string s) := by rw [HS.out]; exact (hbel.cell (by exact hb)).trans (hc k _ (strs_get parts k hlt))
      clear hc hcs1 hcs0 h0 h1
      go_wp2_with fail
      refine (within_any w1.heap.size (pre.length + k) w.heap.size pv _ s _ m0 z0 hown hne hsz (by omega)).mono ?_
      rintro e w2 ⟨pv', rfl, k0, k1, y0, hown2, hne2, hB2⟩
      have hq := neq_same
      go_wp2
      go_roundw
      case rel =>
        refine ⟨k + 1, pv', by omega, by go_num, k0, k1.trans m1, y0, ?_, hne2, hbel.trans (hB2 _ (Nat.le_refl _) hsz1)⟩
        rw [List.take_succ_eq_append_getElem hlt, ← HS.out, ← List.append_assoc, strs_append]
        exact hown2
      case measure => simp [intOf]; omega
    · have hkn : k = parts.length := by omega
      subst hkn
      rw [List.take_of_length_le (Nat.le_refl _)] at hown
      obtain ⟨qa, qc, rfl⟩ := owns_form hown
      have hQ := (Sl.ofOwns hown).shape
      obtain ⟨qa', qc', he, hq1, hq2, hqc⟩ := hQ
      rw [strs_length, List.length_append] at he hq1 hqc
      simp only [Value.slice.injEq, true_and] at he
      obtain ⟨rfl, rfl⟩ := he
      unfold maxLen at hq2
      have hn := neq_nils
      clear hown hne hown1 hne1
      go_wp2_with fail
      go_loopw [10] (fun si wx => ∃ k n : Nat, k ≤ pre.length ∧ si = .int .i64 k ∧ wx = wr.drewN n) (fun si _ => pre.length - (intOf si).toNat)
      case atStart => exact ⟨0, 0, Nat.zero_le _, rfl, rfl⟩
      case round =>
        obtain ⟨k, n, hk2, rfl, rfl⟩ := hrel
        by_cases hlt2 : k < pre.length
        · obtain ⟨b, off, rfl, _, hb, hc⟩ := hcs0 (by omega)
          obtain ⟨qb, qoff, rfl, _, _, hqc4⟩ := hqc (by omega)
          obtain ⟨s, HS⟩ : ∃ s, Hid (s = pre[k]) := ⟨pre[k], (rfl : pre[k] = pre[k])⟩
          have hcx : wr.cell? ⟨b, off + k, none⟩ = some (.string s) := by rw [HS.out]; exact (hbel.cell (by exact hb)).trans (hc k _ (strs_get pre k hlt2))
          have hcy : wr.cell? ⟨qb, qoff + k, none⟩ = some (.string s) := hqc4 k _ (by rw [HS.out, strs_append, List.getElem?_append_left (by rw [strs_length]; exact hlt2)]; exact strs_get pre k hlt2)
          clear hc hcs0 hcs1 hqc hqc4 h0 h1
          go_wp2_with fail
          go_quiet (fail)
          go_wp2
          go_roundw
          case rel => exact ⟨k + 1, _, by omega, by go_num, rfl⟩
          case measure => simp [intOf]; omega
        · go_wp2_with fail
          go_loopw [11] (fun si wx => ∃ k n : Nat, k ≤ parts.length ∧ si = .int .i64 k ∧ wx = wr.drewN n) (fun si _ => parts.length - (intOf si).toNat)
          case atStart => exact ⟨0, n, Nat.zero_le _, rfl, rfl⟩
          case round =>
            obtain ⟨k', n', hk3, rfl, rfl⟩ := hrel
            by_cases hlt3 : k' < parts.length
            · obtain ⟨b, off, rfl, _, hb, hc⟩ := hcs1 (by omega)
              obtain ⟨qb, qoff, rfl, _, _, hqc4⟩ := hqc (by omega)
              obtain ⟨s, HS⟩ : ∃ s, Hid (s = parts[k']) := ⟨parts[k'], (rfl : parts[k'] = parts[k'])⟩
              have hcx : wr.cell? ⟨b, off + k', none⟩ = some (.string s) := by rw [HS.out]; exact (hbel.cell (by exact hb)).trans (hc k' _ (strs_get parts k' hlt3))
              have hcy : wr.cell? ⟨qb, qoff + (pre.length + k'), none⟩ = some (.string s) := hqc4 (pre.length + k') _ (by rw [HS.out, strs_append, List.getElem?_append_right (by rw [strs_length]; omega), strs_length, Nat.add_sub_cancel_left]; exact strs_get parts k' hlt3)
              clear hc hcs0 hcs1 hqc hqc4 h0 h1
              go_wp2_with fail
              go_quiet (fail)
              go_wp2
              go_roundw
              case rel => exact ⟨k' + 1, _, by omega, by go_num, rfl⟩
              case measure => simp [intOf]; omega
            · go_wp2
              go_ret
              exact ⟨rfl, below_drewN hbel _⟩

/-! ### THE ROW's STEP: WRITTEN OUT: LEAVE IT -/
set_option maxRecDepth 100000 in
theorem lifted (os : Os) (started : os.Started) (H : Type) (enc : TypeId × Value → H) :
    ReturnsInHanded {} Yba.checked os 3 .any (Rows.lawS2543APathGrowsSpec.pre6 enc Yba.prog Yba.f3 Rows.lawS2543APathGrowsRow.domain false) (Rows.lawS2543APathGrowsSpec.post enc Yba.prog Yba.f3 false true false false) := by
  refine returnsInHanded_of_change (C := Yba.checked) own started (by kernel_rfl) Yba.func3
    (ChangeSpec.witness6 (enc := enc) (C := Yba.checked) false ⟨#[], #[.slice none 0 0, .slice none 0 0], []⟩ 8 (by kernel_rfl) (by kernel_rfl) (by kernel_rfl) (by kernel_rfl)) ?_
  intro W base args ds gs before hval0 hW hcnd _
  have hval : ∀ (j : Nat) t v, Yba.f3.params[j]? = some t → args[j]? = some v → Value.okWide Yba.prog W .any base t v := hval0
  have hW' := hW
  obtain ⟨p, q, hA0, hV, rfl, hfz, hnd⟩ := hW
  have hA : DataW.TrodAll enc Yba.prog W 0 (fun _ => true) true Yba.f3.params.toList args.toList ds p := hA0
  rw [Yba.params3] at hA hval
  obtain ⟨v0, vs0, d0, ds0, p0, q0, hargs, rfl, rfl, h0, r0⟩ := trodAll_cons hA
  obtain ⟨v1, vs1, d1, ds1, p1, q1, rfl, rfl, rfl, h1, r1⟩ := trodAll_cons r0
  obtain ⟨rfl, rfl, rfl⟩ := trodAll_nil r1
  obtain rfl : args = #[v0, v1] := by cases args; simp_all
  obtain ⟨rfl, rfl⟩ := trodVars_none hV
  obtain ⟨a0, len0, cap0, rfl⟩ := okWide_slice Yba.underlying22 (hval 0 22 v0 rfl rfl)
  have k0 := h0
  have lt0 : ∀ x ∈ p0, x.block < W.heap.size := by obtain ⟨m, hm⟩ := k0; exact DataW.trod_lt m _ _ _ hm
  obtain ⟨ss0, s0⟩ : ∃ ss, Sl (· < W.heap.size) W (.slice a0 len0 cap0) (strs ss) := by
    obtain ⟨fuel, hf⟩ := h0
    rcases open_strings Yba.underlying22 Yba.underlying9 (by kernel_rfl) hf with ⟨hcs, _⟩ | ⟨x, l, c, ss, hcs, _, hl, hm, hz, _, hcell, _⟩
    · simp [Value.cells] at hcs
      obtain ⟨rfl, rfl, rfl⟩ := hcs
      exact ⟨[], Sl.nil _ _⟩
    · simp [Value.cells] at hcs
      obtain ⟨rfl, rfl, rfl⟩ := hcs
      exact ⟨_, strings_sl hl hm (by simpa using hz) hcell⟩
  obtain ⟨a1, len1, cap1, rfl⟩ := okWide_slice Yba.underlying22 (hval 1 22 v1 rfl rfl)
  have k1 := h1
  have lt1 : ∀ x ∈ p1, x.block < W.heap.size := by obtain ⟨m, hm⟩ := k1; exact DataW.trod_lt m _ _ _ hm
  obtain ⟨ss1, s1⟩ : ∃ ss, Sl (· < W.heap.size) W (.slice a1 len1 cap1) (strs ss) := by
    obtain ⟨fuel, hf⟩ := h1
    rcases open_strings Yba.underlying22 Yba.underlying9 (by kernel_rfl) hf with ⟨hcs, _⟩ | ⟨x, l, c, ss, hcs, _, hl, hm, hz, _, hcell, _⟩
    · simp [Value.cells] at hcs
      obtain ⟨rfl, rfl, rfl⟩ := hcs
      exact ⟨[], Sl.nil _ _⟩
    · simp [Value.cells] at hcs
      obtain ⟨rfl, rfl, rfl⟩ := hcs
      exact ⟨_, strings_sl hl hm (by simpa using hz) hcell⟩
  clear hA0 hval0
  refine (walk _ _ ss0 ss1 W s0 s1).mono fun e W' ⟨he, bel⟩ => ?_
  subst he
  exact ⟨_, rfl, _, _, _, [], _, [], hW', trodAll_mk1 (shut_bool Yba.underlying4 _), (trodAll_cons_mk (Below.trod laidOut (by kernel_rfl) (of_decide_eq_true (by kernel_rfl)) k0 bel lt0) (trodAll_cons_mk (Below.trod laidOut (by kernel_rfl) (of_decide_eq_true (by kernel_rfl)) k1 bel lt1) trodAll_mk0)), rfl, bel.frame _, fun h => by cases h⟩

theorem over : Rows.lawS2543APathGrowsRow.holds Yba.pinned (OpenSpec.ofChange Rows.lawS2543APathGrowsSpec) :=
  OpenClaim.holds_of_wide 3 Yba.f3 rfl rfl rfl rfl rfl rfl rfl ⟨rfl, rfl, rfl, rfl, rfl⟩ rfl rfl rfl rfl rfl (by kernel_rfl) Yba.func3 (by kernel_rfl)
    (of_decide_eq_true (by kernel_rfl)) (by unfold Func.isWrapper; first | (rw [if_pos (by decide +kernel)]; kernel_rfl) | (rw [if_neg (by decide +kernel)]; exact ⟨rfl, rfl⟩))
    (fun os started H enc _ => lifted os started H enc)

/-- ████ THE STATEMENT ████ -/
theorem proved : Rows.LawS2543APathGrowsSaid := over
#print axioms proved
end Go.Proofs.Ybulkazqi.lawS2543APathGrows
