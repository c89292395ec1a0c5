/-
  The proof of Rows.LawS2542AEncodesRestSaid: the frame as the kit's shell lays it, the walk filled by contracts of the callees.
-/
import Derived.Test.YbulkazpuOther
import Derived.WalkKit
import Derived.ProofKit
import Derived.OpenShut
import Derived.ShutString
import Derived.ChangeOld
import Derived.Below
import Derived.WalkSmall
import Derived.Deep.Matrix
namespace Go.Proofs.Ybulkazpu.lawS2542AEncodesRest
open Go.ChangeShapes Go.WideShapes Go.ChangeAt Go.RowKit
open Go.Bs
open Go.ChangeMaps (open_string shut_string)
set_option linter.unusedVariables false

theorem own : ownKnob Yba.prog.godebug = none := by kernel_rfl
theorem laidOut : laidOutB Yba.prog = true := by kernel_rfl

/-- WHAT THE WALK IS TOLD OF A SLICE OF INTEGERS THAT CAME IN: it is nil; or it leads to a row of 'cap' cells, the numbers 'zs' (the first 'len' are its elements, the rest its spare room), each fitting its kind. -/
def IsRow (k : IntKind) (w : World) (a : Option Addr) (len cap : Nat) (zs : List Int) : Prop :=
  (a = none ∧ len = 0 ∧ cap = 0 ∧ zs = []) ∨
  ∃ x, a = some x ∧ len ≤ cap ∧ cap ≤ maxLen ∧ zs.length = cap ∧ (∀ i, i < zs.length → w.cell? (x.add i) = some (.int k (zs.getD i 0))) ∧ ∀ n ∈ zs, (Lit.int k n).wf = true

/-- A slice of bytes that came in, as the walks read it. -/
theorem isRow_sl {w : World} {a : Option Addr} {len cap : Nat} {zs : List Int} (h : IsRow .u8 w a len cap zs) : Sl (· < w.heap.size) w (.slice a len cap) (u8s (zs.take len)) := by
  rcases h with ⟨rfl, rfl, rfl, rfl⟩ | ⟨x, rfl, hlc, hm, hz, hc, _⟩
  · exact Sl.nil _ _
  · have hl : (u8s (zs.take len)).length = len := by rw [u8s_length, List.length_take]; omega
    refine ⟨some x, cap, by rw [hl], by omega, hm, (fun h => by cases h), fun hne => ?_⟩
    have hp : 0 < len := by
      rcases Nat.eq_zero_or_pos len with h0 | h0
      · subst h0; simp [u8s] at hne
      · exact h0
    obtain ⟨b, off, rfl, hc'⟩ := ints_at hc (by omega)
    refine ⟨b, off, rfl, World.block_lt_of_cell? _ _ (hc' 0 (by omega)), World.block_lt_of_cell? _ _ (hc' 0 (by omega)), fun i u hu => ?_⟩
    have hi : i < len := by have := (List.getElem?_eq_some_iff.1 hu).1; omega
    have : (u8s (zs.take len))[i]? = some (.int .u8 (zs.getD i 0)) := by
      simp [u8s, hi, show i < zs.length by omega]
    rw [this] at hu
    obtain rfl := Option.some.inj hu
    exact hc' i (by omega)

/-- A slice of slices of bytes that came in, as the walks read it. -/
theorem rows_sl {w : World} {a : Addr} {len cap : Nat} {A : Nat → Option Addr} {L C : Nat → Nat} {Z : Nat → List Int} (hl : len ≤ cap) (hm : cap ≤ maxLen)
    (hrow : ∀ r, r < cap → w.cell? (a.add r) = some (.slice (A r) (L r) (C r)) ∧ L r ≤ C r ∧ C r ≤ maxLen ∧ (Z r).length = C r ∧ (∀ n ∈ Z r, (Lit.int .u8 n).wf = true) ∧ (A r = none → C r = 0) ∧
        ∀ a', A r = some a' → 0 ≤ a'.block ∧ ∀ c, c < C r → w.cell? (a'.add c) = some (.int .u8 ((Z r).getD c 0))) :
    Sl (· < w.heap.size) w (.slice (some a) len cap) ((List.range len).map fun r => .slice (A r) (L r) (C r)) ∧
      Sls (· < w.heap.size) w ((List.range len).map fun r => .slice (A r) (L r) (C r)) ((List.range len).map fun r => (Z r).take (L r)) := by
  refine ⟨⟨some a, cap, by simp, by simpa using hl, hm, (fun h => by cases h), fun hne => ?_⟩, by simp, fun i r zs h1 h2 => ?_⟩
  · have hp : 0 < len := by
      rcases Nat.eq_zero_or_pos len with h0 | h0
      · subst h0; simp at hne
      · exact h0
    obtain ⟨b, off, spot⟩ := a
    have hspot : spot = none := by simpa [Addr.add] using World.cell?_spot (hrow 0 (by omega)).1
    subst hspot
    have hc : ∀ r, r < cap → w.cell? ⟨b, off + r, none⟩ = some (.slice (A r) (L r) (C r)) := fun r hr => by rw [← Go.WideShapes.add_plain]; exact (hrow r hr).1
    refine ⟨b, off, rfl, World.block_lt_of_cell? _ _ (hc 0 (by omega)), World.block_lt_of_cell? _ _ (hc 0 (by omega)), fun i u hu => ?_⟩
    obtain ⟨hi, e⟩ := List.getElem?_eq_some_iff.1 hu
    simp at hi e
    rw [← e]
    exact hc i (by omega)
  · obtain ⟨hi, e⟩ := List.getElem?_eq_some_iff.1 h1
    obtain ⟨_, e'⟩ := List.getElem?_eq_some_iff.1 h2
    simp at hi e e'
    subst e e'
    obtain ⟨_, g1, g2, g3, g4, g5, g6⟩ := hrow i (by omega)
    apply isRow_sl
    cases hA : A i with
    | none =>
      have hc := g5 hA
      exact .inl ⟨rfl, by omega, hc, List.eq_nil_of_length_eq_zero (by omega)⟩
    | some x => exact .inr ⟨x, rfl, g1, g2, g3, fun j hj => (g6 x hA).2 j (by omega), g4⟩

theorem drewNSl {ok : Nat → Prop} {w : World} {v : Value} {cs : List Value} (h : Sl ok w v cs) (n : Nat) : Sl ok (w.drewN n) v cs := h

theorem drewNOwn {w : World} {B : Nat} {e : TypeId} {s : Nat} {v : Value} {m : Nat} {xs : List Value} (h : w.ownsRow B e s v m xs) (n : Nat) : (w.drewN n).ownsRow B e s v m xs := h

/-- What 'total' is behind k rounds. -/
def tot (zss : List (List Int)) (k : Nat) : Nat := ((zss.take k).map List.length).sum

theorem tot_succ (zss : List (List Int)) (k : Nat) (h : k < zss.length) : tot zss (k + 1) = tot zss k + zss[k].length := by
  unfold tot
  rw [List.take_succ_eq_append_getElem h, List.map_append, List.sum_append]
  simp only [List.map_cons, List.map_nil, List.sum_cons, List.sum_nil, Nat.add_zero]

set_option maxRecDepth 100000 in
set_option maxHeartbeats 1600000 in
/-- The law's own walk up to the first loop's end. -/
theorem walk (v0 v1 : Value) (vs : List Value) (zs : List Int) (zss : List (List Int)) (w : World) (h0 : Sl (· < w.heap.size) w v0 (u8s zs)) (h1 : Sl (· < w.heap.size) w v1 vs) (h2 : Sls (· < w.heap.size) w vs zss) :
    Calls Yba.prog 4 #[v0, v1] w fun e w' => e = .returned (.bool true) ∧ Below w.heap.size w w' := by
  obtain ⟨a0, cap0, rfl, hcap0, hmax0, hcs0⟩ := h0.shape
  obtain ⟨a1, cap1, rfl, hcap1, hmax1, hcs1⟩ := h1.shape
  have hvl : vs.length = zss.length := h2.1
  rw [u8s_length] at hcap0 h0 ⊢
  rw [hvl] at hcap1 hcs1 h1 ⊢
  unfold maxLen at hmax0 hmax1
  by_cases hb0 : 1024 < zs.length
  · go_enter Yba.func4, Yba.ntmps4
    go_wp2
    go_ret
    exact ⟨rfl, Below.refl _ _⟩
  by_cases hb1 : 1024 < zss.length
  · go_enter Yba.func4, Yba.ntmps4
    go_wp2
    go_ret
    exact ⟨rfl, Below.refl _ _⟩
  go_enter Yba.func4, Yba.ntmps4
  go_wp2_with fail
  go_loop [5, 6] (fun tv si => ∃ k : Nat, k ≤ zss.length ∧ si = .int .i64 k ∧ tv = .int .i64 (tot zss k : Nat) ∧ tot zss k ≤ k * 1024 ∧ ∀ (i : Nat) (z : List Int), i < k → zss[i]? = some z → z.length ≤ 1024)
    (fun _ si => zss.length - (intOf si).toNat)
  case atStart => exact ⟨0, Nat.zero_le _, rfl, rfl, by simp [tot], fun i z h => absurd h (Nat.not_lt_zero _)⟩
  case round =>
    obtain ⟨k, hk, rfl, rfl, htk, hall⟩ := hrel
    by_cases hlt : k < zss.length
    · obtain ⟨b, off, rfl, _, hb, hc⟩ := hcs1 (by omega)
      have hltv : k < vs.length := by omega
      obtain ⟨r, HR⟩ : ∃ r, Hid (r = vs[k]) := ⟨vs[k], (rfl : vs[k] = vs[k])⟩
      obtain ⟨z, HZ⟩ : ∃ z, Hid (z = zss[k]) := ⟨zss[k], (rfl : zss[k] = zss[k])⟩
      have hcx : w.cell? ⟨b, off + k, none⟩ = some r := by rw [HR.out]; exact hc k _ (List.getElem?_eq_getElem hltv)
      have hr : Sl _ w r (u8s z) := h2.2 k r z (by rw [HR.out]; exact List.getElem?_eq_getElem hltv) (by rw [HZ.out]; exact List.getElem?_eq_getElem hlt)
      obtain ⟨ra, rcap, HF⟩ : ∃ ra rcap, Hid (r = .slice ra z.length rcap) := by
        obtain ⟨ra, rcap, e, _⟩ := hr.shape
        exact ⟨ra, rcap, by rw [u8s_length] at e; exact e⟩
      rw [HF.out] at hcx
      have HA := (show Hid _ from hall)
      have HS : Hid (tot zss (k + 1) = tot zss k + z.length) := by rw [HZ.out]; exact tot_succ zss k hlt
      clear hall hc hcs1 hr h1 h2 hcs0 h0
      by_cases hz : 1024 < z.length
      · go_wp2
        go_ret
        exact ⟨rfl, Below.refl _ _⟩
      · go_wp2
        go_round
        case rel =>
          refine ⟨k + 1, by omega, by go_num, by rw [HS.out]; go_num, by rw [HS.out]; omega, fun i y hi hy => ?_⟩
          by_cases e : i = k
          · subst e
            rw [List.getElem?_eq_getElem hlt] at hy
            obtain rfl := Option.some.inj hy
            have := HZ.out
            rw [← this]; omega
          · exact HA.out i y (by omega) hy
        case measure => simp [intOf]; omega
    · have hkn : k = zss.length := by omega
      subst hkn
      have hdm : ∀ y ∈ zss, y.length ≤ 1024 := fun y hy => by
        obtain ⟨i, hi, e⟩ := List.getElem_of_mem hy
        exact hall i y hi (by rw [List.getElem?_eq_getElem hi, e])
      have HD := (show Hid _ from hdm)
      clear hall hdm
      by_cases ht : 65536 < tot zss zss.length
      · go_wp2
        go_ret
        exact ⟨rfl, Below.refl _ _⟩
      · have hs0 := h0.mono (ok' := (· ≠ w.heap.size)) (fun b hb _ => by omega)
        have hs1 := h1.mono (ok' := (· ≠ w.heap.size)) (fun b hb _ => by omega)
        have hs2 := h2.mono (ok' := (· ≠ w.heap.size)) (fun b hb _ => by omega)
        go_wp2_with fail
        refine (other_any w.heap.size (w.heap.size + 1) true (.slice a1 zss.length cap1) (.slice a0 zs.length cap0) vs zss zs _ (by simp; omega) (by omega) (by simp [go_sem]) (by simp [go_sem]) (by simp [go_sem]) (by simp [go_sem]) (by simp [go_sem]) (by simp [go_sem]) (by simp [go_sem]) ((hs0.alloc _).alloc _) (by omega) ((hs1.alloc _).alloc _) ((hs2.grown (World.grownBy_alloc _ _ none) (fun _ _ => by simp)).grown (World.grownBy_alloc _ _ none) (fun _ _ => by simp)) (by omega) HD.out).mono ?_
        rintro e w1 ⟨out, rfl, eIn, dIn, c, k3, hD, hC, k4, hg, hcase⟩
        have hbel : Below w.heap.size w w1 := ((Below.refl _ _).alloc (Nat.le_refl _) _).alloc (by simp) _ |>.grown hg (by simp; omega) (fun k hk => by cases hk; exact Nat.le_refl _)
        have hp0 : Sl (· < w.heap.size) w1 (.slice a0 zs.length cap0) (u8s zs) := h0.kept hbel.size (fun k hk _ => hbel.block k hk)
        have hp1 : Sl (· < w.heap.size) w1 (.slice a1 zss.length cap1) vs := h1.kept hbel.size (fun k hk _ => hbel.block k hk)
        have hp2 : Sls (· < w.heap.size) w1 vs zss := h2.kept hbel.size (fun k hk _ => hbel.block k hk)
        obtain ⟨da, dcap, rfl, hd1, hd2, hd3⟩ := hD.shape
        obtain ⟨db, doff, rfl, _, _, hd4⟩ := hd3 (by simp)
        have kd : w1.cell? ⟨db, doff, none⟩ = some c := by have := hd4 0 c rfl; simpa using this
        simp only [List.length_cons, List.length_nil] at hd1 k3
        clear hd3 hd4 hD hs0 hs1 hs2 hcs0 hcs1 h0 h1 h2 hg
        obtain ⟨ca, ccap, rfl, hc1, hc2, _⟩ := hC.shape
        obtain ⟨oa, on, oc, rfl⟩ : ∃ oa on oc, out = .slice oa on oc := by
          rcases hcase with ⟨_, _, ho⟩ | ⟨_, _, _, _, _, _, _, _, ho⟩
          · obtain ⟨oa, oc, e, _⟩ := ho.shape
            exact ⟨oa, _, oc, e⟩
          · obtain ⟨oa, oc, e, _⟩ := ho.shape
            exact ⟨oa, _, oc, e⟩
        rw [u8s_length] at hC kd hc1
        rcases hcase with ⟨hd, rfl, ho⟩ | ⟨d, ds, rec, rs, hd, he1, he2, he3, ho⟩
        · have hd' : zss = [] := by simpa [decoded] using hd
          subst hd'
          simp only [List.length_nil] at hp1 ⊢
          go_wp2_with fail
          refine (eq_same _ _ _ _ zs _ hC hp0).mono ?_
          rintro e w2 ⟨rfl, n, rfl⟩
          go_wp2_with fail
          refine (eq_same (fun b => b ≠ w.heap.size) (fun _ => True) (.slice oa on oc) (.slice (some ⟨w1.heap.size, 0, none⟩) 1 1) [0] _ ?_ ?_).mono ?_
          · exact (drewNSl ho _).alloc _
          · exact Sl.lit (w1.drewN n) #[.int .u8 0] 5 trivial (by simp [maxLen])
          rintro e w2 ⟨rfl, n', rfl⟩
          go_wp2
          go_ret
          exact ⟨rfl, below_drewN ((below_drewN hbel n).alloc hbel.size _) n'⟩
        · have hd' : zss = d :: ds := by simpa [decoded] using hd
          subst hd'
          obtain ⟨j0, hj, hy0, hy1, hy2⟩ := info_parts Yba.info5
          obtain ⟨ea, ecap, rfl, hx1, hx2, hx3⟩ := he1.shape
          obtain ⟨eb, eoff, rfl, _, _, hx4⟩ := hx3 (by simp)
          have ke : w1.cell? ⟨eb, eoff, none⟩ = some rec := by have := hx4 0 rec rfl; simpa using this
          simp only [List.length_cons, List.length_nil] at hx1 k4
          obtain ⟨ra, rcap, rfl, hr1, hr2, hr3⟩ := he2.shape
          have hrl : rs.length = ds.length := he3.1
          rw [hrl] at ke hr1 hr3
          have hvl' : vs.length = ds.length + 1 := by simpa using hp2.1
          simp only [List.length_cons] at hp1 hcap1 hb1 ⊢
          obtain ⟨a', c', e', _, _, hsh⟩ := hp1.shape
          simp only [Value.slice.injEq] at e'
          obtain ⟨rfl, hh, rfl⟩ := e'
          clear hh
          obtain ⟨b1, off1, rfl, _, _, ht4⟩ := hsh (by omega)
          clear hsh
          unfold maxLen at hr2 hx2
          have HDS : Hid (∀ y ∈ ds, y.length ≤ 1024) := fun y hy => HD.out y (by simp [hy])
          clear hx3 hx4 he1 he2 HD hd ht htk
          go_wp2_with fail
          refine (eq_same _ _ _ _ zs _ hC hp0).mono ?_
          rintro e w2 ⟨rfl, n, rfl⟩
          clear hC hp0 kd k3
          go_wp2_with fail
          go_loopw [10, 11] (fun wv si wr => ∃ j : Nat, j ≤ ds.length ∧ si = .int .i64 ((j : Int) + 1) ∧ wr.ownsRow w1.heap.size 5 1 wv (enc true (ds.take j)).length (u8s (enc true (ds.take j))) ∧ w1.grownBy wr none)
            (fun _ si _ => ds.length + 1 - (intOf si).toNat)
          case atStart => exact ⟨0, Nat.zero_le _, rfl, by simpa [enc, u8s] using World.ownsRow_nil (w1.drewN n) w1.heap.size 5 1, ⟨rfl, rfl, rfl, Nat.le_refl _, fun _ _ _ => rfl⟩⟩
          case round =>
            obtain ⟨j, hjl, rfl, hown, hgr⟩ := hrel
            have hsz := hgr.size
            by_cases hlt : j < ds.length
            · obtain ⟨rb, roff, rfl, _, _, hr4⟩ := hr3 (by omega)
              obtain ⟨z, HZ⟩ : ∃ z, Hid (z = ds[j]) := ⟨ds[j], (rfl : ds[j] = ds[j])⟩
              have hltr : j < rs.length := by omega
              have hltv : j + 1 < vs.length := by omega
              have hz : (d :: ds)[j + 1]? = some z := by rw [HZ.out]; simp [hlt]
              have hz' : ds[j]? = some z := by rw [HZ.out]; simp [hlt]
              have hq1 : Sl (· ≠ w.heap.size) wr (rs[j]) (u8s z) := (he3.2 j _ z (List.getElem?_eq_getElem hltr) hz').grown hgr (fun _ _ => by simp)
              have hq0 : Sl (· < w.heap.size) w1 (vs[j + 1]) (u8s z) := hp2.2 (j + 1) _ z (List.getElem?_eq_getElem hltv) hz
              have hq2 := hq0.grown hgr (fun _ _ => by simp)
              have hm1 : wr.cell? ⟨rb, roff + j, none⟩ = some (rs[j]) := cellG hgr (.inl rfl) (hr4 j _ (List.getElem?_eq_getElem hltr))
              have hm0 : w1.cell? ⟨b1, off1 + (j + 1), none⟩ = some (vs[j + 1]) := ht4 (j + 1) _ (List.getElem?_eq_getElem hltv)
              have hm2 := cellG hgr (.inl rfl) hm0
              have hm3 := cellG hgr (.inl rfl) k4
              have hm4 := cellG hgr (.inl rfl) ke
              obtain ⟨xa, xc, HX⟩ : ∃ xa xc, Hid (rs[j] = .slice xa z.length xc) := by
                obtain ⟨xa, xc, e, _⟩ := hq1.shape
                exact ⟨xa, xc, by rw [u8s_length] at e; exact e⟩
              obtain ⟨ya, yc, HY⟩ : ∃ ya yc, Hid (vs[j + 1] = .slice ya z.length yc) := by
                obtain ⟨xa, xc, e, _⟩ := hq2.shape
                exact ⟨xa, xc, by rw [u8s_length] at e; exact e⟩
              rw [HX.out] at hq1 hm1
              rw [HY.out] at hq2 hm2 hq0 hm0
              have hzm : z.length ≤ 1024 := HDS.out z (by rw [HZ.out]; exact List.getElem_mem _)
              have HL : Hid ((enc true (ds.take j)).length ≤ 1024 * 1025) := by
                have := enc_len true (ds.take j) (fun y hy => HDS.out y (List.mem_of_mem_take hy))
                have h2 : (ds.take j).length ≤ j := List.length_take_le _ _
                have h3 : (ds.take j).length * 1025 ≤ 1024 * 1025 := Nat.mul_le_mul_right _ (by omega)
                exact Nat.le_trans this h3
              have HT : Hid (ds.take (j + 1) = ds.take j ++ [z]) := by rw [HZ.out]; exact List.take_succ_eq_append_getElem hlt
              obtain ⟨E, HE⟩ : ∃ E, Hid (E = enc true (ds.take j)) := ⟨_, rfl⟩
              rw [← HE.out] at HL hown
              clear hr3 hr4 ht4 he3 hp2 hp1 ho hz hz' hbel k4 ke HX HY
              go_wp2_with fail
              go_quiet ((go_at_call 8; exact Calls.quiet_of (eq_same _ _ _ _ z _ (drewNSl hq1 _) (drewNSl hq2 _))))
              obtain ⟨wq, HQ⟩ : ∃ wq, Hid (wq = wr.drewN nq) := ⟨_, rfl⟩
              have hownq := drewNOwn hown nq
              rw [← HQ.out] at hownq
              have hq2q : Sl (· < w.heap.size) wq (.slice ya z.length yc) (u8s z) := by rw [HQ.out]; exact hq2
              have hm2q : wq.cell? ⟨b1, off1 + (j + 1), none⟩ = some (.slice ya z.length yc) := by rw [HQ.out]; exact hm2
              have hgq : w1.grownBy wq none := by rw [HQ.out]; exact ⟨hgr.os, hgr.tape, hgr.output, hgr.size, hgr.block⟩
              have hszq := hgq.size
              rw [← HQ.out]
              clear hown hq1 hq2 hm1 hm2 hm3 hm4 hgr hsz
              go_wp2_with (at_builtin; refine wpList_append_lies _ rfl (.tmp 125) _ 22 rfl w1.heap.size 5 j0 _ 1 1 Yba.underlying22 hj hy0 hy1 hy2 rfl (by omega) _ E.length (u8s E) rfl (hownq.alloc _) ⟨wq.heap.size, 0, none⟩ 1 1 [_] rfl rfl (news1 _ _ _) (by simp [Value.oneCell']) (by omega) (by have := HL.out; unfold maxLen; omega) (by have := HL.out; omega) (by simp; omega) (wq.heap.size + 1) (by simp) ?_)
              intro g3 cap3 w3 hout3 hgrow3 hat3 hlt3
              have hgw3 : w1.grownBy w3 none := grownBy.inner (grownBy.alloc hgq _) hgrow3 (fun i hi => (hownq.lt i hi).1)
              have hcx3 := cellG hgw3 (.inl rfl) hm0
              have hr3 := hq0.grown hgw3 (fun _ _ => by simp)
              have hsz3 := hgw3.size
              clear hownq hgrow3 hat3 hm2q hq2q hgq hq0 hm0
              go_wp2_with (at_builtin; refine wpList_app _ rfl (.tmp 134) _ 22 rfl w1.heap.size 5 j0 _ 1 Yba.underlying22 hj hy0 hy1 hy2 rfl _ (E.length + 1) _ rfl hout3 (· < w.heap.size) _ (u8s z) rfl hr3 (u8s_one z) (by have := HL.out; rw [u8s_length]; unfold maxLen; omega) (by have := HL.out; rw [u8s_length]; omega) hsz3 ?_)
              intro ov' w4 hout4 hgrow4 hat4
              go_wp2
              refine ⟨?_, ?measure⟩
              (repeat apply Exists.intro)
              refine ⟨?rel, rfl⟩
              case rel =>
                have he : enc true (ds.take (j + 1)) = E ++ [(z.length : Int) % 256] ++ z := by rw [HT.out, enc_snoc, HE.out]; simp
                refine ⟨j + 1, by omega, by go_num, ?_, grownBy.inner hgw3 hgrow4 (fun i hi => (hout3.lt i hi).1)⟩
                rw [he, u8s_append, u8s_append, List.length_append, List.length_append]
                simpa [u8s_length, u8s] using hout4
              case measure => simp [intOf]; omega
            · have hjn : j = ds.length := by omega
              subst hjn
              rw [List.take_of_length_le (Nat.le_refl _)] at hown
              obtain ⟨fa, fc, rfl⟩ := owns_form hown
              have ho' := ho.grown hgr (fun _ _ => by simp)
              have hw' := Sl.ofOwns hown
              clear hr3 ht4 hown he3 hp2 hp1 ho k4 ke
              go_wp2_with fail
              refine (eq_same _ _ _ _ _ _ ho' hw').mono ?_
              rintro e w5 ⟨rfl, n5, rfl⟩
              go_wp2
              go_ret
              exact ⟨rfl, below_drewN (hbel.trans (grownBy.below hgr |>.mono (by have := hbel.size; omega))) _⟩

/-! ### THE ROW's STEP: WRITTEN OUT: LEAVE IT -/
set_option maxRecDepth 100000 in
theorem lifted (os : Os) (started : os.Started) (H : Type) (enc : TypeId × Value → H) :
    ReturnsInHanded {} Yba.checked os 4 .any (Rows.lawS2542AEncodesRestSpec.pre6 enc Yba.prog Yba.f4 Rows.lawS2542AEncodesRestRow.domain false) (Rows.lawS2542AEncodesRestSpec.post enc Yba.prog Yba.f4 false true false false) := by
  refine returnsInHanded_of_change (C := Yba.checked) own started (by kernel_rfl) Yba.func4
    (ChangeSpec.witness6 (enc := enc) (C := Yba.checked) false ⟨#[], #[.slice none 0 0, .slice none 0 0], []⟩ 8 (by kernel_rfl) (by kernel_rfl) (by kernel_rfl) (by kernel_rfl)) ?_
  intro W base args ds gs before hval0 hW hcnd _
  have hval : ∀ (j : Nat) t v, Yba.f4.params[j]? = some t → args[j]? = some v → Value.okWide Yba.prog W .any base t v := hval0
  have hW' := hW
  obtain ⟨p, q, hA0, hV, rfl, hfz, hnd⟩ := hW
  have hA : DataW.TrodAll enc Yba.prog W 0 (fun _ => true) true Yba.f4.params.toList args.toList ds p := hA0
  rw [Yba.params4] at hA hval
  obtain ⟨v0, vs0, d0, ds0, p0, q0, hargs, rfl, rfl, h0, r0⟩ := trodAll_cons hA
  obtain ⟨v1, vs1, d1, ds1, p1, q1, rfl, rfl, rfl, h1, r1⟩ := trodAll_cons r0
  obtain ⟨rfl, rfl, rfl⟩ := trodAll_nil r1
  obtain rfl : args = #[v0, v1] := by cases args; simp_all
  obtain ⟨rfl, rfl⟩ := trodVars_none hV
  obtain ⟨a0, len0, cap0, rfl⟩ := okWide_slice Yba.underlying22 (hval 0 22 v0 rfl rfl)
  have k0 := h0
  have lt0 : ∀ x ∈ p0, x.block < W.heap.size := by obtain ⟨m, hm⟩ := k0; exact DataW.trod_lt m _ _ _ hm
  obtain ⟨z0, w0⟩ : ∃ zs, IsRow .u8 W a0 len0 cap0 zs := by
    obtain ⟨fuel, hf⟩ := h0
    rcases open_ints Yba.underlying22 Yba.underlying5 (by kernel_rfl) hf with ⟨hcs, _⟩ | ⟨x, l, c, zs, hcs, _, hl, hm, hz, _, hcell, hwz⟩
    · simp [Value.cells] at hcs
      obtain ⟨rfl, rfl, rfl⟩ := hcs
      exact ⟨[], .inl ⟨rfl, rfl, rfl, rfl⟩⟩
    · simp [Value.cells] at hcs
      obtain ⟨rfl, rfl, rfl⟩ := hcs
      exact ⟨zs, .inr ⟨_, rfl, hl, hm, by simpa using hz, hcell, hwz⟩⟩
  obtain ⟨a1, len1, cap1, rfl⟩ := okWide_slice Yba.underlying26 (hval 1 26 v1 rfl rfl)
  have k1 := h1
  have lt1 : ∀ x ∈ p1, x.block < W.heap.size := by obtain ⟨m, hm⟩ := k1; exact DataW.trod_lt m _ _ _ hm
  obtain ⟨vs, zss, s1, s2⟩ : ∃ vs zss, Sl (· < W.heap.size) W (.slice a1 len1 cap1) vs ∧ Sls (· < W.heap.size) W vs zss := by
    obtain ⟨fuel, hf⟩ := h1
    rcases Go.Deep.open_int_rows Yba.underlying26 Yba.underlying22 Yba.underlying5 (by kernel_rfl) (by kernel_rfl) hf with ⟨hcs, _⟩ | ⟨x, l, c, A, L, C, Z, hcs, _, hl, hm, _, hrow⟩
    · simp [Value.cells] at hcs
      obtain ⟨rfl, rfl, rfl⟩ := hcs
      exact ⟨[], [], Sl.nil _ _, Sls.nil _ _⟩
    · simp [Value.cells] at hcs
      obtain ⟨rfl, rfl, rfl⟩ := hcs
      exact ⟨_, _, rows_sl hl hm hrow⟩
  clear hA0 hval0
  refine (walk _ _ vs _ zss W (isRow_sl w0) s1 s2).mono fun e W' ⟨he, bel⟩ => ?_
  subst he
  exact ⟨_, rfl, _, _, _, [], _, [], hW', trodAll_mk1 (shut_bool Yba.underlying4 _), (trodAll_cons_mk (Below.trod laidOut (by kernel_rfl) (of_decide_eq_true (by kernel_rfl)) k0 bel lt0) (trodAll_cons_mk (Below.trod laidOut (by kernel_rfl) (of_decide_eq_true (by kernel_rfl)) k1 bel lt1) trodAll_mk0)), rfl, bel.frame _, fun h => by cases h⟩

theorem over : Rows.lawS2542AEncodesRestRow.holds Yba.pinned (OpenSpec.ofChange Rows.lawS2542AEncodesRestSpec) :=
  OpenClaim.holds_of_wide 4 Yba.f4 rfl rfl rfl rfl rfl rfl rfl ⟨rfl, rfl, rfl, rfl, rfl⟩ rfl rfl rfl rfl rfl (by kernel_rfl) Yba.func4 (by kernel_rfl)
    (of_decide_eq_true (by kernel_rfl)) (by unfold Func.isWrapper; first | (rw [if_pos (by decide +kernel)]; kernel_rfl) | (rw [if_neg (by decide +kernel)]; exact ⟨rfl, rfl⟩))
    (fun os started H enc _ => lifted os started H enc)

/-- ████ THE STATEMENT ████ -/
theorem proved : Rows.LawS2542AEncodesRestSaid := over
#print axioms proved
end Go.Proofs.Ybulkazpu.lawS2542AEncodesRest
