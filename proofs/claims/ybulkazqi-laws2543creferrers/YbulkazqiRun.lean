import Derived.Test.YbulkazqiCrefs
namespace Go.Proofs.Ybulkazqi
open Go.RowKit Go.Shelf Go.Bs

/-- A drawn definition: its kind, its Refs' slice, the bytes that stand there. -/
abbrev DefT := Int × Value × List Int
/-- The argument: a slice of definitions that lies below N. -/
structure DefsIs (N : Nat) (w : World) (a : Option Addr) (cap : Nat) (ds : List DefT) : Prop where
  cap : ds.length ≤ cap
  cells : ds ≠ [] → ∃ b off, a = some ⟨b, off, none⟩ ∧ b < N ∧ ∀ i d, ds[i]? = some d → w.cell? ⟨b, off + i * 2, none⟩ = some (.int .u8 d.1) ∧ w.cell? ⟨b, off + i * 2 + 1, none⟩ = some d.2.1
  each : ∀ d ∈ ds, 0 ≤ d.1 ∧ (∀ r ∈ d.2.2, 0 ≤ r ∧ r ≤ 255) ∧ Sl (· < N) w d.2.1 (u8s d.2.2)

theorem DefsIs.below {N : Nat} {w w' : World} {a : Option Addr} {cap : Nat} {ds : List DefT} (h : DefsIs N w a cap ds) (hb : Below N w w') : DefsIs N w' a cap ds := by
  refine ⟨h.cap, fun hne => ?_, fun d hd => ?_⟩
  · obtain ⟨b, off, e, hlt, hc⟩ := h.cells hne
    exact ⟨b, off, e, hlt, fun i d hd => ⟨(hb.cell (p := ⟨b, off + i * 2, none⟩) hlt).trans (hc i d hd).1, (hb.cell (p := ⟨b, off + i * 2 + 1, none⟩) hlt).trans (hc i d hd).2⟩⟩
  · obtain ⟨h1, h2, h3⟩ := h.each d hd
    exact ⟨h1, h2, h3.kept hb.size (fun k hk _ => hb.block k hk)⟩
theorem DefsIs.sl {N : Nat} {w : World} {a : Option Addr} {cap : Nat} {ds : List DefT} (h : DefsIs N w a cap ds) {d : DefT} (hd : d ∈ ds) : Sl (fun _ => True) w d.2.1 (u8s d.2.2) := (h.each d hd).2.2.mono (fun _ _ _ => trivial)

theorem Sl.isSlice {ok : Nat → Prop} {w : World} {v : Value} {cs : List Value} (h : Sl ok w v cs) : ∃ a cap, v = .slice a cs.length cap := by
  obtain ⟨a, cap, h, _⟩ := h
  exact ⟨a, cap, h⟩

def Okay (ds : List DefT) : Prop := ds.length ≤ 256 ∧ ∀ d ∈ ds, d.2.2.length ≤ 256

set_option maxRecDepth 100000 in
set_option maxHeartbeats 2000000 in
/-- 'zzs2543cok': where it answers true, the input is small. -/
theorem cok_any (N : Nat) (a : Option Addr) (cap : Nat) (ds : List DefT) (w : World) (hN : N ≤ w.heap.size) (hD : DefsIs N w a cap ds) :
    Calls Yba.prog 9 #[.slice a ds.length cap] w fun e w' => ∃ b, e = .returned (.bool b) ∧ (b = true → Okay ds) ∧ w.grownBy w' none := by
  have hcap := hD.cap
  obtain ⟨m, Hm⟩ : ∃ m, Hid (ds.length = m) := ⟨_, (rfl : ds.length = ds.length)⟩
  rw [Hm.out] at hcap ⊢
  by_cases h256 : m ≤ 256
  · go_enter Yba.func9, Yba.ntmps9
    go_wp2
    go_loopw [10] (fun si wr => ∃ k : Nat, k ≤ m ∧ si = .int .i64 k ∧ (∀ d ∈ ds.take k, d.2.2.length ≤ 256) ∧ w.grownBy wr none) (fun si _ => m - (intOf si).toNat)
    case atStart => exact ⟨0, Nat.zero_le _, rfl, fun d hd => by simp at hd, World.grownBy.refl _ _⟩
    case round =>
      obtain ⟨k, hkm, rfl, hpre, hg⟩ := hrel
      by_cases hlt : k < m
      · obtain ⟨d, hd⟩ : ∃ d, ds[k]? = some d := ⟨_, List.getElem?_eq_getElem (by rw [Hm.out]; exact hlt)⟩
        have hD' := hD.below (w' := wr) ((grownBy.below hg).mono hN)
        obtain ⟨b, off, rfl, hb, hc⟩ := hD'.cells (fun e => by rw [e] at hd; simp at hd)
        obtain ⟨c0, c1⟩ := hc k d hd
        obtain ⟨ra, rc, hrv⟩ := Sl.isSlice (hD'.sl (List.mem_of_getElem? hd))
        rw [hrv] at c1
        obtain ⟨q, Hq⟩ : ∃ q, Hid ((u8s d.2.2).length = q) := ⟨_, (rfl : (u8s d.2.2).length = (u8s d.2.2).length)⟩
        rw [Hq.out] at c1
        obtain ⟨kd, Hkd⟩ : ∃ kd, Hid (d.1 = kd) := ⟨_, (rfl : d.1 = d.1)⟩
        rw [Hkd.out] at c0
        have HG : Hid (w.grownBy (wr.alloc (.cells #[.int .u8 kd, .slice ra q rc] 46)) none) := grownBy.alloc hg _
        have HT : Hid (ds.take (k + 1) = ds.take k ++ [d]) := by
          show ds.take (k + 1) = ds.take k ++ [d]
          rw [List.take_add_one, hd]; rfl
        have HP : Hid (∀ d ∈ ds.take k, d.2.2.length ≤ 256) := hpre
        have hql : q ≤ 9223372036854775807 := by
          obtain ⟨_, cap', e, h1, h2, _⟩ := hD'.sl (List.mem_of_getElem? hd)
          rw [Hq.out] at h1
          unfold maxLen at h2
          omega
        clear hD' hc hpre hg hD hrv
        by_cases hq : q ≤ 256
        · go_wp2
          go_roundw
          case rel =>
            refine ⟨k + 1, by omega, by go_num, fun d' hd' => ?_, HG.out⟩
            rw [HT.out] at hd'
            rcases List.mem_append.1 hd' with h | h
            · exact HP.out d' h
            · rw [List.mem_singleton.1 h, ← u8s_length, Hq.out]; exact hq
          case measure => simp [intOf]; omega
        · go_wp2
          first | go_ret | refine bodyPost_ret (by rfl) rfl ?_
          exact ⟨_, rfl, (fun h => by cases h), HG.out⟩
      · obtain rfl : k = m := by omega
        go_wp2
        go_ret
        refine ⟨_, rfl, fun _ => ⟨by rw [Hm.out]; exact h256, ?_⟩, hg⟩
        rw [List.take_of_length_le (Nat.le_of_eq Hm.out)] at hpre
        exact hpre
  · go_enter Yba.func9, Yba.ntmps9
    go_wp2
    go_ret
    exact ⟨_, rfl, (fun h => by cases h), World.grownBy.refl _ _⟩

/-- The ids that definition i refers to. -/
def rsAt (n : Nat) (ds : List DefT) (i : Nat) : List Int := match ds[i]? with | some d => refsOf n d.1 d.2.2 | none => []
/-- What the first m definitions leave behind. -/
def RunTo (n : Nat) (ds : List DefT) : Nat → List Int → Rho → Prop
  | 0, H, ρ => H = [] ∧ ρ = []
  | m + 1, H, ρ => ∃ H0 ρ0, RunTo n ds m H0 ρ0 ∧ NoteStep (rsAt n ds m) (9 + m) H0 ρ0 H ρ

theorem tot_drain (k : Nat) (s : List Int × List Int × Rho) : tot (Bs.drain k s).2.2 ≤ tot s.2.2 := by
  induction k with
  | zero => exact Nat.le_refl _
  | succ k ih =>
    refine Nat.le_trans ?_ ih
    show tot (Bs.dstep (Bs.drain k s)).2.2 ≤ _
    unfold Bs.dstep
    split
    · exact Nat.le_refl _
    · split
      · exact Nat.le_refl _
      · rename_i id _ _
        have := tot_del id (Bs.drain k s).2.2
        show tot (Bs.del id (Bs.drain k s).2.2) ≤ _
        omega
theorem NoteStep.tot {xs : List Int} {me : Int} {H : List Int} {ρ : Rho} {H' : List Int} {ρ' : Rho} (h : NoteStep xs me H ρ H' ρ') : Bs.tot ρ' ≤ Bs.tot ρ + xs.length := by
  rcases h with ⟨_, _, rfl⟩ | ⟨pre, x, hp, _, _, k, hk⟩
  · exact tot_noteAll _ _ _
  · have h1 := tot_drain k ([me], H, noteAll me pre ρ)
    rw [hk] at h1
    have h2 := tot_noteAll me pre ρ
    have h3 := hp.length_le
    simp at h3 h1
    omega
theorem refsOf_length (n : Nat) (k : Int) (rs : List Int) (h : rs.length ≤ 256) : (refsOf n k rs).length ≤ 256 := by
  unfold refsOf yields
  split
  · simp
  · split
    · simp
    · split
      · unfold fsOf
        split
        · simpa using h
        · simp
      · simp
theorem rsAt_length {n : Nat} {ds : List DefT} (h : Okay ds) (i : Nat) : (rsAt n ds i).length ≤ 256 := by
  unfold rsAt
  split
  · rename_i d hd
    exact refsOf_length _ _ _ (h.2 d (List.mem_of_getElem? hd))
  · simp
theorem RunTo.tot {n : Nat} {ds : List DefT} (h : Okay ds) : ∀ {m : Nat} {H : List Int} {ρ : Rho}, RunTo n ds m H ρ → Bs.tot ρ ≤ 256 * m
  | 0, H, ρ, hr => by obtain ⟨_, rfl⟩ := hr; simp [Bs.tot]
  | m + 1, H, ρ, hr => by
    obtain ⟨H0, ρ0, h0, hs⟩ := hr
    have h1 := RunTo.tot h h0
    have h2 := NoteStep.tot hs
    have h3 := rsAt_length (n := n) h m
    omega
theorem kdOf_cases (k : Int) : kdOf k = 2 ∨ kdOf k = 4 ∨ kdOf k = 3 ∨ kdOf k = 5 := by
  unfold kdOf
  split
  · exact .inl rfl
  · split
    · exact .inr (.inl rfl)
    · split
      · exact .inr (.inr (.inl rfl))
      · exact .inr (.inr (.inr rfl))
theorem fsOf_length (n : Nat) (k : Int) (rs : List Int) (h : rs.length ≤ 256) : (fsOf n k rs).length ≤ 256 := by
  unfold fsOf
  split
  · simpa using h
  · simp

theorem repT_made (w : World) (c0 c1 c2 c3 c4 c5 : Value) (rest : List Value) : RepT (((w.alloc (.map #[] 0)).alloc (.map #[] 0)).alloc (.cells (List.toArray (c0 :: c1 :: c2 :: c3 :: c4 :: c5 :: .map (some w.heap.size) :: .map (some (w.heap.size + 1)) :: rest)) 72)) w.heap.size (w.heap.size + 1 + 1) w.heap.size (w.heap.size + 1) [] [] := by
  have h2 : (((w.alloc (.map #[] 0)).alloc (.map #[] 0)).alloc (.cells (List.toArray (c0 :: c1 :: c2 :: c3 :: c4 :: c5 :: .map (some w.heap.size) :: .map (some (w.heap.size + 1)) :: rest)) 72)).heap[w.heap.size + 1 + 1]? = some (.cells (List.toArray (c0 :: c1 :: c2 :: c3 :: c4 :: c5 :: .map (some w.heap.size) :: .map (some (w.heap.size + 1)) :: rest)) 72 (0, 0)) := by
    have := heap_alloc_new ((w.alloc (.map #[] 0)).alloc (.map #[] 0)) (.cells (List.toArray (c0 :: c1 :: c2 :: c3 :: c4 :: c5 :: .map (some w.heap.size) :: .map (some (w.heap.size + 1)) :: rest)) 72)
    simpa using this
  have hm1 : MapIs ((w.alloc (.map #[] 0)).alloc (.map #[] 0)) (w.heap.size + 1) [] := by have := MapIs.made (w.alloc (.map #[] 0)); simpa using this
  refine ⟨?_, ?_, ((MapIs.made w).alloc _).alloc _, hm1.alloc _, ⟨fun t ht => (by cases ht), List.Pairwise.nil⟩, ⟨_, _, h2⟩, by omega, by omega, by omega, by omega⟩
  · rw [cell_of_row _ _ 6 _ 72 (0, 0) h2]; rfl
  · rw [cell_of_row _ _ 7 _ 72 (0, 0) h2]; rfl

set_option maxRecDepth 100000 in
set_option maxHeartbeats 2000000 in
/-- 'zzs2543crun'. -/
theorem crun_any (N : Nat) (a : Option Addr) (cap : Nat) (ds : List DefT) (w : World) (hN : N ≤ w.heap.size) (hD : DefsIs N w a cap ds) (hok : Okay ds) :
    Calls Yba.prog 10 #[.slice a ds.length cap] w fun e w' => ∃ RD HB RB H τ, e = .returned (.pointer (some ⟨RD, 0, none⟩)) ∧ RepT w' w.heap.size RD HB RB H τ ∧ RunTo ds.length ds ds.length H (τ.map rhoT) ∧ Below w.heap.size w w' := by
  have hcap := hD.cap
  have hm256 := hok.1
  obtain ⟨m, Hm⟩ : ∃ m, Hid (ds.length = m) := ⟨_, (rfl : ds.length = ds.length)⟩
  rw [Hm.out] at hcap hm256 ⊢
  have hmm : ∀ (t : TypeId) (w : World), (Instr.makeMap t none).run Yba.prog w = .ok (.map (some w.heap.size)) (w.alloc (.map #[] 0)) := fun _ _ => rfl
  go_enter Yba.func10, Yba.ntmps10
  go_wp2
  go_loopw [5] (fun si wr => ∃ k : Nat, k ≤ m ∧ si = .int .i64 k ∧ ∃ H τ, RepT wr w.heap.size (w.heap.size + 1 + 1) w.heap.size (w.heap.size + 1) H τ ∧ RunTo m ds k H (τ.map rhoT) ∧ Below w.heap.size w wr) (fun si _ => m - (intOf si).toNat)
  case atStart => exact ⟨0, Nat.zero_le _, rfl, [], [], repT_made w _ _ _ _ _ _ _, ⟨rfl, rfl⟩, (((Below.refl _ w).alloc (Nat.le_refl _) _).alloc (by simp) _).alloc (by simp; omega) _⟩
  case round =>
    obtain ⟨k, hkm, rfl, H, τ, hR, hrun, hbel⟩ := hrel
    by_cases hlt : k < m
    · obtain ⟨d, hd⟩ : ∃ d, ds[k]? = some d := ⟨_, List.getElem?_eq_getElem (by rw [Hm.out]; exact hlt)⟩
      have hmem := List.mem_of_getElem? hd
      have hD' := hD.below (w' := wr) (hbel.mono hN)
      obtain ⟨b, off, rfl, hb, hc⟩ := hD'.cells (fun e => by rw [e] at hd; simp at hd)
      obtain ⟨c0, c1⟩ := hc k d hd
      obtain ⟨hk0, hrs, _⟩ := hD'.each d hmem
      have hS := hD'.sl hmem
      have hq := hok.2 d hmem
      obtain ⟨kd, rv, rs⟩ := d
      simp only at c0 c1 hk0 hrs hS hq
      have CT : Hid (Calls Yba.prog 13 #[.agg #[.int .u8 kd, rv], .int .i64 (9 + (k : Int)), .int .i64 m] wr fun e w' => ∃ v, e = .returned v ∧ TypeMade wr w' v m kd rs (9 + (k : Int))) := ctype_any m hm256 kd hk0 rs hrs hq (9 + (k : Int)) rv wr hS
      have HX : Hid (RunTo m ds (k + 1) = fun H' ρ' => ∃ H0 ρ0, RunTo m ds k H0 ρ0 ∧ NoteStep (refsOf m kd rs) (9 + k) H0 ρ0 H' ρ') := by
        show RunTo m ds (k + 1) = fun H' ρ' => ∃ H0 ρ0, RunTo m ds k H0 ρ0 ∧ NoteStep (refsOf m kd rs) (9 + k) H0 ρ0 H' ρ'
        funext H' ρ'
        simp only [RunTo, rsAt, hd]
      have NT : ∀ w1 T FB, wr.grownBy w1 none → TypeIs w1 T FB (kdOf kd) (elOf m kd rs) (kyOf m kd rs) (fsOf m kd rs) (9 + (k : Int)) → Plain w1 T → Plain w1 FB → Hid (Calls Yba.prog 12 #[.pointer (some ⟨w.heap.size + 1 + 1, 0, none⟩), .pointer (some ⟨T, 0, none⟩)] w1 fun e w' => e = .returned (.tuple #[]) ∧
          ∃ H' τ', RepT w' w.heap.size (w.heap.size + 1 + 1) w.heap.size (w.heap.size + 1) H' τ' ∧ RunTo m ds (k + 1) H' (τ'.map rhoT) ∧ Below w.heap.size w w') := by
        intro w1 T FB hg hT hp1 hp2
        have htot := RunTo.tot hok hrun
        refine Calls.mono (note_any w.heap.size (w.heap.size + 1 + 1) w.heap.size (w.heap.size + 1) T FB H τ _ _ _ _ _ w1 (hR.new hg) hT hp1 hp2 (kdOf_cases kd) (Nat.le_trans (fsOf_length m kd rs hq) (by omega)) (Nat.le_trans hbel.size hg.size) (by omega)) ?_
        · rintro e w' ⟨rfl, H', τ', h1, h2, h3⟩
          refine ⟨rfl, H', τ', h1, ?_, (hbel.trans (((grownBy.below hg)).mono hbel.size)).trans h3⟩
          rw [HX.out]
          exact ⟨H, _, hrun, h2⟩
      clear hD' hc hD hS hrs hR hrun hbel HX hd hmem
      go_wp2_with (first
        | (go_at_call 13; refine Calls.mono CT.out ?_; rintro e w1 ⟨v, rfl, T, FB, rfl, hT, hp1, hp2, hg1⟩)
        | (go_at_call 12; refine Calls.mono (NT _ T FB hg1 hT hp1 hp2).out ?_; rintro e w2 ⟨rfl, H', τ', h1, h2, h3⟩))
      go_roundw
      case rel => exact ⟨k + 1, by omega, by go_num, H', τ', h1, h2, h3⟩
      case measure => simp [intOf]; omega
    · obtain rfl : k = m := by omega
      go_wp2
      go_ret
      exact ⟨_, _, _, H, τ, rfl, hR, hrun, hbel⟩
end Go.Proofs.Ybulkazqi
