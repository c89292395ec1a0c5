import Derived.Test.YbulkazqiPlain
namespace Go.Proofs.Ybulkazqi
open Go.RowKit Go.Shelf Go.Bs

def Sat (hs : List Bool) (id : Int) : Prop := id = 8 ∨ ∃ j : Nat, id = 9 + (j : Int) ∧ hs[j]? = some true

theorem count_set : ∀ {hs : List Bool} {i : Nat}, hs[i]? = some false → (hs.set i true).count true = hs.count true + 1
  | b :: hs, 0, h => by simp at h; simp [h]
  | b :: hs, i + 1, h => by
    simp only [List.getElem?_cons_succ] at h
    have := count_set h
    simp only [List.set_cons_succ, List.count_cons, this]
    omega

/-- The state of the fixed point: H is closed, and hold has none but holders. -/
structure Fix (n : Nat) (H : List Int) (hs : List Bool) : Prop where
  len : hs.length = n
  sound : ∀ i : Nat, hs[i]? = some true → 9 + (i : Int) ∈ H

theorem Fix.set {n : Nat} {R : Nat → List Int} {H : List Int} {hs : List Bool} (h : Fix n H hs) {ρ : Rho} (hI : Sta n n R [] H ρ) {i : Nat} (hi : i < n) {r : Int} (hr : r ∈ R i) (hs' : Sat hs r) : Fix n H (hs.set i true) := by
  refine ⟨by simp [h.len], fun j hj => ?_⟩
  by_cases e : i = j
  · subst e
    by_cases hm : 9 + (i : Int) ∈ H
    · exact hm
    · rcases hI.wait i hi hm with hw | hw
      · cases hw
      · obtain ⟨h1, h2, _⟩ := hw r hr
        rcases hs' with e | ⟨j, e, hj⟩
        · exact absurd e h1
        · exact absurd (e ▸ h.sound j hj) h2
  · rw [List.getElem?_set_ne e] at hj
    exact h.sound j hj

/-- Closed: nothing more is to be set. -/
def Shut4 (n : Nat) (R : Nat → List Int) (hs : List Bool) : Prop := ∀ j, j < n → hs[j]? = some false → ∀ r ∈ R j, ¬ Sat hs r
theorem Fix.all {n : Nat} {R : Nat → List Int} {H : List Int} {hs : List Bool} {ρ : Rho} (h : Fix n H hs) (hI : Sta n n R [] H ρ) (hc : Shut4 n R hs) (i : Nat) : (9 + (i : Int) ∈ H) ↔ hs[i]? = some true := by
  refine ⟨fun hm => ?_, h.sound i⟩
  have := hI.der _ hm (fun id => ∃ j : Nat, id = 9 + (j : Int) ∧ hs[j]? = some true) (fun j hj ⟨r, hr, hx⟩ => ?_)
  · obtain ⟨j, e, hj⟩ := this
    have : i = j := by omega
    rw [this]; exact hj
  · refine ⟨j, rfl, ?_⟩
    cases hb : hs[j]? with
    | none => rw [List.getElem?_eq_none_iff, h.len] at hb; omega
    | some b =>
      cases b with
      | true => rfl
      | false =>
        refine absurd ?_ (hc j hj hb r hr)
        exact hx
theorem cnt_le (l : List Int) (b : Int) : ∀ k, cnt l b k ≤ k
  | 0 => Nat.le_refl _
  | k + 1 => by
    have := cnt_le l b k
    unfold cnt
    split <;> omega

theorem Yba.info42 : (Yba.prog.info? 42).map (fun i => (i.zero, i.size, i.bytes)) = some (some (.slice none 0 0), 1, 24) := by kernel_rfl
theorem Yba.info4 : (Yba.prog.info? 4).map (fun i => (i.zero, i.size, i.bytes)) = some (some (.bool false), 1, 1) := by kernel_rfl

/-- The rows of the references, the first k laid. -/
structure RefRows (W : World) (g1 n : Nat) (R : Nat → List Int) (k : Nat) : Prop where
  row : ∃ vs : List Value, vs.length = n ∧ W.heap[g1]? = some (.cells vs.toArray 42 (0, 0)) ∧ ∀ i, i < k → ∃ v, vs[i]? = some v ∧ Sl (fun b => b ≠ g1) W v (ints (R i))

theorem RefRows.cell {W : World} {g1 n : Nat} {R : Nat → List Int} {k : Nat} (h : RefRows W g1 n R k) {i : Nat} (hi : i < k) : ∃ v, W.cell? ⟨g1, i, none⟩ = some v ∧ Sl (fun b => b ≠ g1) W v (ints (R i)) := by
  obtain ⟨vs, hl, hh, hv⟩ := h.row
  obtain ⟨v, h1, h2⟩ := hv i hi
  refine ⟨v, ?_, h2⟩
  rw [cell_of_row W g1 i _ 42 (0, 0) hh]
  simpa using h1
theorem RefRows.there {W : World} {g1 n : Nat} {R : Nat → List Int} {k : Nat} (h : RefRows W g1 n R k) {i : Nat} (hi : i < n) : (∃ v, W.cell? ⟨g1, i, none⟩ = some v) ∧ W.frozen? ⟨g1, i, none⟩ = false := by
  obtain ⟨vs, hl, hh, hv⟩ := h.row
  refine ⟨⟨vs[i], ?_⟩, frozen_of_row W g1 i _ 42 hh⟩
  rw [cell_of_row W g1 i _ 42 (0, 0) hh]
  simp [hl, hi]
theorem RefRows.lt {W : World} {g1 n : Nat} {R : Nat → List Int} {k : Nat} (h : RefRows W g1 n R k) : g1 < W.heap.size := by
  obtain ⟨vs, hl, hh, hv⟩ := h.row
  exact (Array.getElem?_eq_some_iff.1 hh).1
theorem RefRows.grown {W W' : World} {g1 n : Nat} {R : Nat → List Int} {k : Nat} {row : Option Nat} (h : RefRows W g1 n R k) (hg : W.grownBy W' row) (hr : ∀ r, row = some r → W.heap.size ≤ r) : RefRows W' g1 n R k := by
  have hlt := h.lt
  obtain ⟨vs, hl, hh, hv⟩ := h.row
  refine ⟨vs, hl, (hg.block g1 hlt (fun e => by have := hr g1 e.symm; omega)).trans hh, fun i hi => ?_⟩
  obtain ⟨v, h1, h2⟩ := hv i hi
  exact ⟨v, h1, h2.kept hg.size (fun b _ hb => hg.block b hb (fun e => by have := hr b e.symm; omega))⟩
theorem RefRows.made {w3 : World} {B g m : Nat} {R : Nat → List Int} {xs : List Value} (h : w3.ownsRow B 42 1 (.slice (some ⟨g, 0, none⟩) m m) m xs) : RefRows w3 g m R 0 := by
  rcases h.2 with ⟨h', _⟩ | ⟨g', cap'', cur, h', hb, hg, hnc, hcm, hsz, htake⟩
  · simp at h'
  · simp only [Value.slice.injEq, Option.some.injEq, Addr.mk.injEq, and_true, true_and] at h'
    obtain ⟨rfl, rfl⟩ := h'
    exact ⟨cur.toList, by simp; omega, by simpa using hg, fun i hi => by omega⟩
theorem RefRows.set {W : World} {g1 n : Nat} {R : Nat → List Int} {k : Nat} (h : RefRows W g1 n R k) (hk : k < n) {v : Value} (hv : Sl (fun b => b ≠ g1) W v (ints (R k))) : RefRows (W.setCell ⟨g1, k, none⟩ v) g1 n R (k + 1) := by
  obtain ⟨vs, hl, hh, hvs⟩ := h.row
  refine ⟨vs.set k v, by simp [hl], ?_, fun i hi => ?_⟩
  · have := heap_setCell_same W g1 k _ 42 v hh
    simpa using this
  · by_cases e : k = i
    · subst e
      exact ⟨v, by simp [hl, hk], hv.setCell (by simp) _⟩
    · obtain ⟨u, h1, h2⟩ := hvs i (by omega)
      exact ⟨u, by rw [List.getElem?_set_ne e]; exact h1, h2.setCell (by simp) _⟩

/-- The world of the fixed point: the Reader, the references, hold. -/
structure FixW (w wx : World) (N1 RD HB RB g1 g2 m : Nat) (R : Nat → List Int) (H : List Int) (τ : List Ent) (hs : List Bool) : Prop where
  refs : ∀ i, i < m → ∃ a c, wx.cell? ⟨g1, i, none⟩ = some (.slice a (R i).length c) ∧ Sl (fun b => b ≠ g2) wx (.slice a (R i).length c) (ints (R i))
  rep : RepT wx N1 RD HB RB H τ
  bel : Below w.heap.size w wx
  row : wx.heap[g2]? = some (.cells (hs.map Value.bool).toArray 4 (0, 0))
  ne : g1 ≠ g2
  lo : w.heap.size ≤ g2

theorem FixW.hold {w wx : World} {N1 RD HB RB g1 g2 m : Nat} {R : Nat → List Int} {H : List Int} {τ : List Ent} {hs : List Bool} (h : FixW w wx N1 RD HB RB g1 g2 m R H τ hs) {k : Nat} {b : Bool} (hb : hs[k]? = some b) : wx.cell? ⟨g2, k, none⟩ = some (.bool b) := by
  rw [cell_of_row wx g2 k _ 4 (0, 0) h.row]
  simp [hb]
theorem FixW.frozen {w wx : World} {N1 RD HB RB g1 g2 m : Nat} {R : Nat → List Int} {H : List Int} {τ : List Ent} {hs : List Bool} (h : FixW w wx N1 RD HB RB g1 g2 m R H τ hs) (k : Nat) : wx.frozen? ⟨g2, k, none⟩ = false := frozen_of_row wx g2 k _ 4 h.row
theorem FixW.set {w wx : World} {N1 RD HB RB g1 g2 m : Nat} {R : Nat → List Int} {H : List Int} {τ : List Ent} {hs : List Bool} (h : FixW w wx N1 RD HB RB g1 g2 m R H τ hs) (k : Nat) : FixW w (wx.setCell ⟨g2, k, none⟩ (.bool true)) N1 RD HB RB g1 g2 m R H τ (hs.set k true) := by
  refine ⟨fun i hi => ?_, ?_, h.bel.setCell h.lo _, ?_, h.ne, h.lo⟩
  · obtain ⟨a, c, h1, h2⟩ := h.refs i hi
    refine ⟨a, c, ?_, h2.setCell (by simp) _⟩
    rw [World.cell?_setCell_other _ ⟨g2, k, none⟩ ⟨g1, i, none⟩ _ (by simp; exact fun e => absurd e.symm h.ne)]
    exact h1
  · refine h.rep.grown (row := some g2) (grownBy.setCell (World.grownBy.refl _ _) (.inl rfl) _) (fun r e => ?_)
    cases e
    exact (show Plain wx g2 from ⟨_, _, _, h.row, by decide, by decide⟩).far h.rep
  · have := heap_setCell_same wx g2 k _ 4 (.bool true) h.row
    rw [this]
    simp [List.map_set]
theorem FixW.made {w wr w5 : World} {N1 RD HB RB g1 g2 m : Nat} {R : Nat → List Int} {H : List Int} {τ : List Ent} (hRR : RefRows wr g1 m R m) (hR : RepT wr N1 RD HB RB H τ) (hB : Below w.heap.size w wr) (hg : wr.grownBy w5 none) (hlo : w.heap.size ≤ g2) (h1 : wr.heap.size ≤ g2)
    (ho : w5.ownsRow g2 4 1 (.slice (some ⟨g2, 0, none⟩) m m) m (madeCells #[.bool false] m).toList) : FixW w w5 N1 RD HB RB g1 g2 m R H τ (List.replicate m false) := by
  have hgl := hRR.lt
  refine ⟨fun i hi => ?_, hR.new hg, hB.trans ((grownBy.below hg).mono hB.size), ?_, by omega, hlo⟩
  · obtain ⟨v, h2, h3⟩ := hRR.cell hi
    obtain ⟨a, c, rfl, _⟩ := id h3
    rw [ints_length] at h2 h3
    exact ⟨a, c, cellG hg (.inl rfl) h2, (h3.mono (fun b _ hb => by omega)).grown hg (fun _ _ => by simp)⟩
  · rcases ho.2 with ⟨h', _⟩ | ⟨g', cap'', cur, h', hb, hg', hnc, hcm, hsz, htake⟩
    · simp at h'
    · simp only [Value.slice.injEq, Option.some.injEq, Addr.mk.injEq, and_true, true_and] at h'
      obtain ⟨rfl, rfl⟩ := h'
      rw [hg']
      have hsz' : cur.toList.length = m * 1 := by simpa using hsz
      rw [toList_madeCells_one, List.take_of_length_le (Nat.le_of_eq hsz')] at htake
      rw [List.map_replicate, ← htake]

set_option maxRecDepth 100000 in
set_option maxHeartbeats 4000000 in
theorem walk5 (a : Option Addr) (cap : Nat) (ds : List DefT) (w : World) (hD : DefsIs w.heap.size w a cap ds) :
    Calls Yba.prog 5 #[.slice a ds.length cap] w fun e w' => e = .returned (.bool true) ∧ Below w.heap.size w w' := by
  obtain ⟨i0, hi, hz0, hz1, hz2⟩ := info_parts Yba.info42
  obtain ⟨j0, hj, hy0, hy1, hy2⟩ := info_parts Yba.info4
  have hcap := hD.cap
  obtain ⟨m, Hm⟩ : ∃ m, Hid (ds.length = m) := ⟨_, (rfl : ds.length = ds.length)⟩
  have COK : Hid (Calls Yba.prog 9 #[.slice a m cap] w fun e w' => ∃ b, e = .returned (.bool b) ∧ (b = true → Okay ds) ∧ w.grownBy w' none) := by
    rw [← Hm.out]
    exact cok_any w.heap.size a cap ds w (Nat.le_refl _) hD
  have CRUN : ∀ w1 : World, w.grownBy w1 none → Okay ds → Hid (Calls Yba.prog 10 #[.slice a m cap] w1 fun e w' => ∃ RD HB RB H τ, e = .returned (.pointer (some ⟨RD, 0, none⟩)) ∧ RepT w' w1.heap.size RD HB RB H τ ∧ Sta m m (rsAt m ds) [] H (τ.map rhoT) ∧ Below w.heap.size w w' ∧ w1.heap.size ≤ w'.heap.size) := by
    intro w1 hg hok
    show Calls Yba.prog 10 #[.slice a m cap] w1 _
    rw [← Hm.out]
    refine Calls.mono (crun_any w.heap.size a cap ds w1 hg.size (hD.below (grownBy.below hg)) hok) ?_
    rintro e w' ⟨RD, HB, RB, H, τ, rfl, h1, h2, h3⟩
    exact ⟨RD, HB, RB, H, τ, rfl, h1, RunTo.inv (Nat.le_refl _) h2, (grownBy.below hg).trans (h3.mono hg.size), h3.size⟩
  rw [Hm.out] at hcap ⊢
  go_enter Yba.func5, Yba.ntmps5
  go_wp2_with (first
    | (go_at_call 9; refine Calls.mono COK.out ?_; rintro e w1 ⟨b, rfl, hok, hg1⟩; cases b))
  · go_ret
    exact ⟨rfl, grownBy.below hg1⟩
  have hok : Okay ds := by first | exact hok trivial | exact hok rfl
  have hm256 : m ≤ 256 := by rw [← Hm.out]; exact hok.1
  clear COK
  go_wp2_with (first
    | (go_at_call 10; refine Calls.mono (CRUN _ hg1 hok).out ?_; rintro e w2 ⟨RD, HB, RB, H, τ, rfl, hR, hI, hB, hs2⟩)
    | (at_make; refine wpList_make_full _ rfl _ _ 41 rfl w2.heap.size 42 i0 _ 1 Yba.underlying41 hi hz0 hz1 _ _ _ _ m rfl rfl rfl rfl ?b2 ?b3 (Nat.le_refl _) ?_))
  case b2 => rw [hz2]; omega
  case b3 => unfold maxLen; omega
  intro w3 hown3 hg3
  have HRR : Hid (RefRows w3 w2.heap.size m (rsAt m ds) 0) := RefRows.made hown3
  have HR3 : Hid (RepT w3 w1.heap.size RD HB RB H τ) := hR.new hg3
  have HB3 : Hid (Below w.heap.size w w3) := hB.trans ((grownBy.below hg3).mono hB.size)
  have hb1 := hg1.size
  have hs12 : w1.heap.size ≤ w2.heap.size := hs2
  clear hown3 hg3 hR CRUN
  go_wp2
  go_loopw [6] (fun si wr => ∃ k : Nat, k ≤ m ∧ si = .int .i64 k ∧ RefRows wr w2.heap.size m (rsAt m ds) k ∧ RepT wr w1.heap.size RD HB RB H τ ∧ Below w.heap.size w wr) (fun si _ => m - (intOf si).toNat)
  case atStart => exact ⟨0, Nat.zero_le _, rfl, HRR.out, HR3.out, HB3.out⟩
  case round =>
    clear HRR HR3 HB3
    obtain ⟨k, hkm, rfl, hRR, hR, hBr⟩ := hrel
    by_cases hlt : k < m
    · obtain ⟨d, hd⟩ : ∃ d, ds[k]? = some d := ⟨_, List.getElem?_eq_getElem (by rw [Hm.out]; exact hlt)⟩
      have hmem := List.mem_of_getElem? hd
      have hD' := hD.below (w' := wr) hBr
      obtain ⟨b, off, rfl, hb, hc⟩ := hD'.cells (fun e => by rw [e] at hd; simp at hd)
      obtain ⟨c0, c1⟩ := hc k d hd
      obtain ⟨hk0, hrs, _⟩ := hD'.each d hmem
      have hS := hD'.sl hmem
      have hq := hok.2 d hmem
      obtain ⟨kd, rv, rs⟩ := d
      simp only at c0 c1 hk0 hrs hS hq
      have CR : Hid (Calls Yba.prog 11 #[.agg #[.int .u8 kd, rv], .int .i64 m] wr fun e w' => ∃ sa sl sc, e = .returned (.slice sa sl sc) ∧ RefRows w' w2.heap.size m (rsAt m ds) k ∧ Sl (fun b => b ≠ w2.heap.size) w' (.slice sa sl sc) (ints (rsAt m ds k)) ∧ RepT w' w1.heap.size RD HB RB H τ ∧ Below w.heap.size w w') := by
        refine Calls.mono (crefs_any m hm256 kd hk0 rs hrs hq rv wr hS) ?_
        rintro e w' ⟨v, rfl, h1, h2⟩
        have hxs : rsAt m ds k = refsOf m kd rs := by simp [rsAt, hd]
        obtain ⟨sa, sc, rfl⟩ := row_form h1
        have hlt' := hRR.lt
        refine ⟨sa, _, sc, rfl, hRR.grown h2 (fun r e => by cases e), ?_, hR.new h2, hBr.trans ((grownBy.below h2).mono hBr.size)⟩
        rw [hxs]
        exact (Sl.ofOwns h1).mono (fun b hb _ => by have := hb.2; omega)
      have hgl := hRR.lt
      have HST : ∀ (w4 : World) (v : Value), RefRows w4 w2.heap.size m (rsAt m ds) k → Sl (fun b => b ≠ w2.heap.size) w4 v (ints (rsAt m ds k)) → RepT w4 w1.heap.size RD HB RB H τ → Below w.heap.size w w4 → Hid (RefRows (w4.setCell ⟨w2.heap.size, k, none⟩ v) w2.heap.size m (rsAt m ds) (k + 1) ∧ RepT (w4.setCell ⟨w2.heap.size, k, none⟩ v) w1.heap.size RD HB RB H τ ∧ Below w.heap.size w (w4.setCell ⟨w2.heap.size, k, none⟩ v)) := by
        intro w4 v h1 h2 h3 h4
        refine ⟨h1.set hlt h2, ?_, h4.setCell (by simp; omega) _⟩
        obtain ⟨vs, hvl, hvh, _⟩ := h1.row
        refine h3.grown (row := some w2.heap.size) (grownBy.setCell (World.grownBy.refl _ _) (.inl rfl) _) (fun r e => ?_)
        cases e
        exact (show Plain w4 w2.heap.size from ⟨_, _, _, hvh, by decide, by decide⟩).far h3
      clear hD' hc hS hrs hR hRR hBr hd hmem
      go_wp2_with (first
        | (go_at_call 11; refine Calls.mono CR.out ?_; rintro e w4 ⟨sa, sl, sc, rfl, h1, h2, h3, h4⟩; obtain ⟨⟨u0, f0⟩, f1⟩ := h1.there hlt; have HS' := HST w4 _ h1 h2 h3 h4; clear h1 h2 h3 h4))
      go_roundw
      case rel => exact ⟨k + 1, by omega, by go_num, HS'.out⟩
      case measure => simp [intOf]; omega
    · obtain rfl : m = k := by omega
      have hgl := hRR.lt
      clear hD hlt
      go_wp2_with (at_make; refine wpList_make_full _ rfl _ _ 47 rfl wr.heap.size 4 j0 _ 1 Yba.underlying47 hj hy0 hy1 _ _ _ _ m rfl rfl rfl rfl ?b2 ?b3 (Nat.le_refl _) ?_)
      case b2 => rw [hy2]; omega
      case b3 => unfold maxLen; omega
      intro w5 hown5 hg5
      obtain ⟨g1, G1⟩ : ∃ g1, g1 = w2.heap.size := ⟨_, rfl⟩
      obtain ⟨g2, G2⟩ : ∃ g2, g2 = wr.heap.size := ⟨_, rfl⟩
      have HF0 : Hid (FixW w w5 w1.heap.size RD HB RB g1 g2 m (rsAt m ds) H τ (List.replicate m false)) := by
        rw [← G1] at hRR
        rw [← G2] at hown5
        exact FixW.made hRR hR hBr hg5 (by have := hBr.size; omega) (by omega) hown5
      rw [← G1, ← G2]
      clear hown5 hg5 hRR hR hBr hgl G1 G2 hs12 hs2 hB hb1 hg1
      go_wp2
      go_loopw [8] (fun s8 wx => ∃ (r : Nat) (hs : List Bool), r ≤ m + 1 ∧ s8 = .int .i64 r ∧ FixW w wx w1.heap.size RD HB RB g1 g2 m (rsAt m ds) H τ hs ∧ Fix m H hs ∧ r ≤ hs.count true) (fun s8 _ => m + 1 - (intOf s8).toNat)
      case atStart => exact ⟨0, _, Nat.zero_le _, rfl, HF0.out, ⟨by simp, fun i hi => by simp [List.getElem?_replicate] at hi⟩, Nat.zero_le _⟩
      case round =>
        clear HF0
        obtain ⟨r, hs, hr, rfl, hW, hF, hcnt⟩ := hrel
        have hrm : r ≤ m := by
          have := List.count_le_length (l := hs) (a := true)
          rw [hF.len] at this
          omega
        go_wp2
        go_loopw [9, 10] (fun s9 s10 wy => ∃ (c : Bool) (k : Nat) (hs : List Bool), k ≤ m ∧ s9 = .bool c ∧ s10 = .int .i64 k ∧ FixW w wy w1.heap.size RD HB RB g1 g2 m (rsAt m ds) H τ hs ∧ Fix m H hs ∧ r ≤ hs.count true ∧ (c = true → r + 1 ≤ hs.count true) ∧
          (c = false → ∀ j, j < k → hs[j]? = some false → ∀ x ∈ rsAt m ds j, ¬ Sat hs x)) (fun _ s10 _ => m - (intOf s10).toNat)
        case atStart => exact ⟨false, 0, hs, Nat.zero_le _, rfl, rfl, hW, hF, hcnt, (fun h => by cases h), fun _ j hj => by omega⟩
        case round =>
          clear hW hF hcnt hs
          obtain ⟨c, k, hs, hkm, rfl, rfl, hW, hF, hcnt, hc1, hc0⟩ := hrel
          by_cases hlt : k < m
          · obtain ⟨b, hb⟩ : ∃ b, hs[k]? = some b := ⟨_, List.getElem?_eq_getElem (by rw [hF.len]; exact hlt)⟩
            have hcb := hW.hold hb
            obtain ⟨ra, rc, hrc, hrS⟩ := hW.refs k hlt
            have HC : Hid ((c = true → r + 1 ≤ hs.count true) ∧ (c = false → ∀ j, j < k → hs[j]? = some false → ∀ x ∈ rsAt m ds j, ¬ Sat hs x)) := ⟨hc1, hc0⟩
            clear hc1 hc0
            cases b with
            | true =>
              clear hrS
              go_wp2
              go_roundw
              case rel =>
                refine ⟨c, k + 1, hs, by omega, rfl, by go_num, hW, hF, hcnt, HC.out.1, fun hc j hj hf => ?_⟩
                by_cases e : j = k
                · subst e; rw [hb] at hf; cases hf
                · exact HC.out.2 hc j (by omega) hf
              case measure => simp [intOf]; omega
            | false =>
              have z0 := hW.frozen k
              have HWS : Hid (FixW w (wr.setCell ⟨g2, k, none⟩ (.bool true)) w1.heap.size RD HB RB g1 g2 m (rsAt m ds) H τ (hs.set k true)) := hW.set k
              have HB0 : Hid (hs[k]? = some false) := hb
              obtain ⟨len, HL⟩ : ∃ len, Hid ((rsAt m ds k).length = len) := ⟨_, (rfl : (rsAt m ds k).length = (rsAt m ds k).length)⟩
              have hl256 : len ≤ 256 := by rw [← HL.out]; exact rsAt_length hok k
              obtain ⟨_, _, e', hcp, _, _, hcl⟩ := hrS
              rw [ints_length] at e' hcp
              simp only [Value.slice.injEq, true_and] at e'
              obtain ⟨rfl, rfl⟩ := e'
              rw [HL.out] at hrc hcp
              clear hb
              go_wp2
              go_loopw [9, 59] (fun s9 s59 wz => ∃ q : Nat, q ≤ len ∧ s59 = .int .i64 q ∧ s9 = .bool c ∧ wz = wr ∧ ∀ q' x, q' < q → (rsAt m ds k)[q']? = some x → ¬ Sat hs x) (fun _ s59 _ => len - (intOf s59).toNat)
              case atStart => exact ⟨0, Nat.zero_le _, rfl, rfl, rfl, fun q' x h => by omega⟩
              case round =>
                obtain ⟨q, hq, rfl, rfl, rfl, hns⟩ := hrel
                have HN : Hid (∀ q' x, q' < q → (rsAt m ds k)[q']? = some x → ¬ Sat hs x) := hns
                clear hns
                by_cases hql : q < len
                · obtain ⟨x, hx⟩ : ∃ x, (rsAt m ds k)[q]? = some x := ⟨_, List.getElem?_eq_getElem (by rw [HL.out]; exact hql)⟩
                  obtain ⟨sb, so, rfl, _, _, hcs⟩ := hcl (fun e => by have := congrArg List.length e; rw [ints_length, HL.out] at this; simp at this; omega)
                  have hcx := hcs q (.int .i64 x) (by simp [ints, hx])
                  have HX : Hid (x ∈ rsAt m ds k) := List.mem_of_getElem? hx
                  have HX2 : Hid ((rsAt m ds k)[q]? = some x) := hx
                  have hrg := rsAt_range k x (List.mem_of_getElem? hx)
                  clear hcs hcl hx
                  by_cases h8 : x = 8
                  · subst h8
                    go_wp2
                    go_roundw
                    case rel =>
                      refine ⟨true, k + 1, hs.set k true, by omega, rfl, by go_num, HWS.out, hF.set hI hlt HX.out (.inl rfl), ?_, ?_, (fun h => by cases h)⟩
                      · rw [count_set HB0.out]; omega
                      · intro _; rw [count_set HB0.out]; omega
                    case measure => simp [intOf]; omega
                  rcases hrg with h2 | h2 | ⟨h9, hxm⟩
                  · exact absurd h2 h8
                  · subst h2
                    go_wp2
                    go_roundw
                    case rel =>
                      refine ⟨q + 1, by omega, by go_num, by trivial, by trivial, fun q' y hq' hy => ?_⟩
                      by_cases e : q' = q
                      · subst e
                        rw [HX2.out] at hy
                        obtain rfl := Option.some.inj hy
                        rintro (h8 | ⟨j', h9, hj'⟩)
                        · omega
                        · omega
                      · exact HN.out q' y (by omega) hy
                    case measure => simp [intOf]; omega
                  · obtain ⟨j, hj⟩ : ∃ j : Nat, x - 9 = (j : Int) := ⟨(x - 9).toNat, by omega⟩
                    by_cases hjm : j < m
                    · obtain ⟨b', hb'⟩ : ∃ b, hs[j]? = some b := ⟨_, List.getElem?_eq_getElem (by rw [hF.len]; exact hjm)⟩
                      have hcj := hW.hold hb'
                      have HJ : Hid (hs[j]? = some b') := hb'
                      have HXJ : Hid (x = 9 + (j : Int)) := by show x = 9 + (j : Int); omega
                      clear hb'
                      have hjm' : (j : Int) < m := by omega
                      cases b' with
                      | true =>
                        go_wp2
                        go_roundw
                        case rel =>
                          refine ⟨true, k + 1, hs.set k true, by omega, rfl, by go_num, HWS.out, hF.set hI hlt HX.out (.inr ⟨j, HXJ.out, HJ.out⟩), ?_, ?_, (fun h => by cases h)⟩
                          · rw [count_set HB0.out]; omega
                          · intro _; rw [count_set HB0.out]; omega
                        case measure => simp [intOf]; omega
                      | false =>
                        go_wp2
                        go_roundw
                        case rel =>
                          refine ⟨q + 1, by omega, by go_num, by trivial, by trivial, fun q' y hq' hy => ?_⟩
                          by_cases e : q' = q
                          · subst e
                            rw [HX2.out] at hy
                            obtain rfl := Option.some.inj hy
                            rintro (h8 | ⟨j', h9, hj'⟩)
                            · omega
                            · have : j' = j := by omega
                              subst this
                              rw [HJ.out] at hj'
                              cases hj'
                          · exact HN.out q' y (by omega) hy
                        case measure => simp [intOf]; omega
                    · have hjm' : ¬ (j : Int) < m := by omega
                      go_wp2
                      go_roundw
                      case rel =>
                        refine ⟨q + 1, by omega, by go_num, by trivial, by trivial, fun q' y hq' hy => ?_⟩
                        by_cases e : q' = q
                        · subst e
                          rw [HX2.out] at hy
                          obtain rfl := Option.some.inj hy
                          rintro (h8 | ⟨j', h9, hj'⟩)
                          · omega
                          · have hl := (List.getElem?_eq_some_iff.1 hj').1
                            rw [hF.len] at hl
                            omega
                        · exact HN.out q' y (by omega) hy
                      case measure => simp [intOf]; omega
                · obtain rfl : len = q := by omega
                  go_wp2
                  go_roundw
                  case rel =>
                    refine ⟨c, k + 1, hs, by omega, by trivial, by go_num, hW, hF, hcnt, HC.out.1, fun hc j hj hf y hy => ?_⟩
                    by_cases e : j = k
                    · subst e
                      obtain ⟨p, hp, hpy⟩ := List.mem_iff_getElem.1 hy
                      refine HN.out p y (by rw [← HL.out]; exact hp) ?_
                      rw [List.getElem?_eq_getElem hp, hpy]
                    · exact HC.out.2 hc j (by omega) hf y hy
                  case measure => simp [intOf]; omega
          · obtain rfl : m = k := by omega
            have HC : Hid ((c = true → r + 1 ≤ hs.count true) ∧ (c = false → ∀ j, j < m → hs[j]? = some false → ∀ x ∈ rsAt m ds j, ¬ Sat hs x)) := ⟨hc1, hc0⟩
            clear hc1 hc0
            cases c with
            | true =>
              go_wp2
              go_roundw
              case rel => exact ⟨r + 1, hs, by omega, by go_num, hW, hF, HC.out.1 rfl⟩
              case measure => simp [intOf]; omega
            | false =>
              have HALL : Hid (∀ i : Nat, (9 + (i : Int) ∈ H) ↔ hs[i]? = some true) := hF.all hI (HC.out.2 rfl)
              have HCL : Hid (cnt H 9 m = H.length) := length_cnt hI.nd hI.hd
              have hwr := hW.rep
              go_wp2
              go_loopw [13, 14] (fun s13 s14 wz => ∃ (k p : Nat), k ≤ m ∧ s14 = .int .i64 k ∧ s13 = .int .i64 (cnt H 9 k) ∧ wz = wr.drewN p) (fun _ s14 _ => m - (intOf s14).toNat)
              case atStart => exact ⟨0, 0, Nat.zero_le _, rfl, rfl, rfl⟩
              case round =>
                obtain ⟨k, p, hkm, rfl, rfl, rfl⟩ := hrel
                by_cases hlt : k < m
                · obtain ⟨b, hb⟩ : ∃ b, hs[k]? = some b := ⟨_, List.getElem?_eq_getElem (by rw [hF.len]; exact hlt)⟩
                  have hcb := hW.hold hb
                  have r6 := hwr.r6
                  have hdec : decide (9 + (k : Int) ∈ H) = b := by
                    have := HALL.out k
                    rw [hb] at this
                    cases b <;> simpa using this
                  have hl1 : ∀ p, (Instr.lookup 51 (.map (some HB)) (.int .i64 (9 + (k : Int))) false).run Yba.prog (wr.drewN p) = .ok (.bool b) (wr.drewN p) := by
                    intro p
                    have := (MapIs.look (w := wr.drewN p) (P := Yba.prog) (show MapIs (wr.drewN p) HB (H.map hv) from hwr.hm) Yba.underlying51 Yba.underlying48 (z := .bool false) rfl (9 + (k : Int)))
                    rw [get_hv, hdec] at this
                    exact this
                  have hcl := cnt_le H 9 k
                  obtain ⟨ct, HCT⟩ : ∃ ct, Hid (cnt H 9 k = ct) := ⟨_, (rfl : cnt H 9 k = cnt H 9 k)⟩
                  have HC1 : Hid (cnt H 9 (k + 1) = ct + if b = true then 1 else 0) := by
                    show cnt H 9 (k + 1) = ct + if b = true then 1 else 0
                    rw [← HCT.out, ← hdec]
                    show cnt H 9 k + (if 9 + (k : Int) ∈ H then 1 else 0) = _
                    simp
                  rw [HCT.out] at hcl ⊢
                  clear hb hdec
                  cases b with
                  | true =>
                    go_wp2_with fail
                    go_quiet (fail)
                    go_wp2
                    go_roundw
                    case rel => exact ⟨k + 1, _, by omega, by go_num, by rw [HC1.out]; go_num, rfl⟩
                    case measure => simp [intOf]; omega
                  | false =>
                    go_wp2_with fail
                    go_quiet (fail)
                    go_wp2
                    go_roundw
                    case rel => exact ⟨k + 1, _, by omega, by go_num, by rw [HC1.out]; go_num, rfl⟩
                    case measure => simp [intOf]; omega
                · obtain rfl : m = k := by omega
                  have r6 := hwr.r6
                  have hlm : ∀ ty, (Builtin.len_ #[51] ty #[.map (some HB)]).run Yba.prog (wr.drewN p) = .ok (.int .i64 H.length) (wr.drewN p) := by
                    intro ty
                    have := run_lenMap (P := Yba.prog) (w := wr.drewN p) (show MapIs (wr.drewN p) HB (H.map hv) from hwr.hm) Yba.underlying51 ty
                    rw [List.length_map] at this
                    exact this
                  rw [HCL.out]
                  go_wp2
                  go_ret
                  exact ⟨rfl, below_drewN hW.bel _⟩
end Go.Proofs.Ybulkazqi
