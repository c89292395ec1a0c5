import Derived.Test.YbulkazqiPlain
import Derived.WalkSmall
namespace Go.Proofs.Ybulkazqi
open Go.RowKit Go.Shelf Go.Bs

theorem RepT.drewN {W : World} {N0 RD HB RB : Nat} {H : List Int} {τ : List Ent} (h : RepT W N0 RD HB RB H τ) (k : Nat) : RepT (W.drewN k) N0 RD HB RB H τ := ⟨h.r6, h.r7, h.hm, h.rm, ⟨h.rows.own, h.rows.apart⟩, h.rt, h.ne, h.lo⟩
def keysOf (τ : List Ent) : List Int := τ.map (·.1)
theorem isSome_kvT (id : Int) (τ : List Ent) : (Bs.get id (τ.map kvT)).isSome = decide (id ∈ keysOf τ) := by
  induction τ with
  | nil => rfl
  | cons t τ ih =>
    have e : Bs.get id ((t :: τ).map kvT) = if t.1 = id then some t.2.1 else Bs.get id (τ.map kvT) := rfl
    rw [e]
    by_cases h : t.1 = id
    · rw [if_pos h]; simp [keysOf, h]
    · rw [if_neg h, ih]
      have h' : ¬ id = t.1 := fun e => h e.symm
      refine decide_eq_decide.2 ?_
      simp [keysOf, h']
theorem cnt_le2 (l : List Int) (b : Int) : ∀ k, cnt l b k ≤ k
  | 0 => Nat.le_refl _
  | k + 1 => by
    have := cnt_le2 l b k
    unfold cnt
    split <;> omega
theorem keys_rhoT (τ : List Ent) : (τ.map rhoT).map (·.1) = keysOf τ := by
  unfold keysOf; rw [List.map_map]; rfl

set_option maxRecDepth 100000 in
set_option maxHeartbeats 4000000 in
theorem walk6 (a : Option Addr) (cap : Nat) (ds : List DefT) (w : World) (hD : DefsIs w.heap.size w a cap ds) :
    Calls Yba.prog 6 #[.slice a ds.length cap] w fun e w' => e = .returned (.bool true) ∧ Below w.heap.size w w' := by
  have hcap := hD.cap
  obtain ⟨m, Hm⟩ : ∃ m, Hid (ds.length = m) := ⟨_, (rfl : ds.length = ds.length)⟩
  have COK : Hid (Calls Yba.prog 9 #[.slice a m cap] w fun e w' => ∃ b, e = .returned (.bool b) ∧ (b = true → Okay ds) ∧ w.grownBy w' none) := by
    rw [← Hm.out]
    exact cok_any w.heap.size a cap ds w (Nat.le_refl _) hD
  have CRUN : ∀ w1 : World, w.grownBy w1 none → Okay ds → Hid (Calls Yba.prog 10 #[.slice a m cap] w1 fun e w' => ∃ RD HB RB H τ, e = .returned (.pointer (some ⟨RD, 0, none⟩)) ∧ RepT w' w1.heap.size RD HB RB H τ ∧ Sta m m (rsAt m ds) [] H (τ.map rhoT) ∧ Below w.heap.size w w') := by
    intro w1 hg hok
    show Calls Yba.prog 10 #[.slice a m cap] w1 _
    rw [← Hm.out]
    refine Calls.mono (crun_any w.heap.size a cap ds w1 hg.size (hD.below (grownBy.below hg)) hok) ?_
    rintro e w' ⟨RD, HB, RB, H, τ, rfl, h1, h2, h3⟩
    exact ⟨RD, HB, RB, H, τ, rfl, h1, RunTo.inv (Nat.le_refl _) h2, (grownBy.below hg).trans (h3.mono hg.size)⟩
  rw [Hm.out] at hcap ⊢
  go_enter Yba.func6, Yba.ntmps6
  go_wp2_with (first
    | (go_at_call 9; refine Calls.mono COK.out ?_; rintro e w1 ⟨b, rfl, hok, hg1⟩; cases b))
  · go_ret
    exact ⟨rfl, grownBy.below hg1⟩
  have hok : Okay ds := by first | exact hok trivial | exact hok rfl
  have hm256 : m ≤ 256 := by rw [← Hm.out]; exact hok.1
  clear COK
  go_wp2_with (first
    | (go_at_call 10; refine Calls.mono (CRUN _ hg1 hok).out ?_; rintro e w2 ⟨RD, HB, RB, H, τ, rfl, hR, hI, hB⟩))
  clear CRUN
  obtain ⟨N1, HN1⟩ : ∃ N1, N1 = w1.heap.size := ⟨_, rfl⟩
  rw [← HN1] at hR
  clear HN1 hg1
  have hkey : ∀ id : Int, id ∈ keysOf τ → 8 < id ∧ id ≤ 9 + m ∧ id ∉ H := fun id hid => by
    obtain ⟨t, ht, rfl⟩ := List.mem_map.1 hid
    exact hI.good.key (rhoT t) (List.mem_map.2 ⟨t, ht, rfl⟩)
  have HCL : Hid (cnt (keysOf τ) 1 (9 + m) = τ.length) := by
    show cnt (keysOf τ) 1 (9 + m) = τ.length
    have := length_cnt (l := keysOf τ) (b := 1) (n := 9 + m) (by rw [← keys_rhoT]; exact hI.good.nd) (fun x hx => by
      obtain ⟨h1, h2, _⟩ := hkey x hx
      exact ⟨(x - 1).toNat, by omega, by omega⟩)
    rw [this]; simp [keysOf]
  have HKEY : Hid (∀ id : Int, id ∈ keysOf τ → 8 < id ∧ id ≤ 9 + m ∧ id ∉ H) := hkey
  have HR2 : Hid (RepT w2 N1 RD HB RB H τ) := hR
  have HB2 : Hid (Below w.heap.size w w2) := hB
  have HSTA : Hid (Sta m m (rsAt m ds) [] H (τ.map rhoT)) := hI
  clear hkey hR hB hI
  go_loopw [5, 6] (fun s5 s6 wx => ∃ t : Nat, t ≤ 9 + m ∧ s6 = .int .i64 (1 + t) ∧ s5 = .int .i64 (cnt (keysOf τ) 1 t) ∧ RepT wx N1 RD HB RB H τ ∧ Below w.heap.size w wx) (fun _ s6 _ => 10 + m - (intOf s6).toNat)
  case atStart => exact ⟨0, Nat.zero_le _, rfl, rfl, HR2.out, HB2.out⟩
  case round =>
    clear HR2 HB2
    obtain ⟨t, ht, rfl, rfl, hR, hBr⟩ := hrel
    have r6 := hR.r6
    have r7 := hR.r7
    have hct := cnt_le2 (keysOf τ) 1 t
    by_cases hlt : t < 9 + m
    · have hlk : (Instr.lookup 52 (.map (some RB)) (.int .i64 (1 + (t : Int))) true).run Yba.prog wr = .ok (.tuple #[tsV (1 + (t : Int)) τ, .bool (decide (1 + (t : Int) ∈ keysOf τ))]) wr := by
        rw [← tsV_get, ← isSome_kvT]
        exact hR.rm.look_ok Yba.underlying52 Yba.underlying48 rfl _
      have hlh : (Instr.lookup 51 (.map (some HB)) (.int .i64 (1 + (t : Int))) false).run Yba.prog wr = .ok (.bool (decide (1 + (t : Int) ∈ H))) wr := by
        rw [← get_hv]
        exact hR.hm.look Yba.underlying51 Yba.underlying48 rfl _
      obtain ⟨ct, HCT⟩ : ∃ ct, Hid (cnt (keysOf τ) 1 t = ct) := ⟨_, (rfl : cnt (keysOf τ) 1 t = cnt (keysOf τ) 1 t)⟩
      have HC1 : Hid (cnt (keysOf τ) 1 (t + 1) = ct + if 1 + (t : Int) ∈ keysOf τ then 1 else 0) := by
        show cnt (keysOf τ) 1 (t + 1) = ct + if 1 + (t : Int) ∈ keysOf τ then 1 else 0
        rw [← HCT.out]; rfl
      rw [HCT.out] at hct ⊢
      by_cases hin : 1 + (t : Int) ∈ keysOf τ
      · obtain ⟨h8, h9, hnH⟩ := HKEY.out _ hin
        rw [show decide (1 + (t : Int) ∈ H) = false by simp [hnH]] at hlh
        rw [show decide (1 + (t : Int) ∈ keysOf τ) = true by simp only [hin, decide_true]] at hlk
        have HC2 : Hid (cnt (keysOf τ) 1 (t + 1) = ct + 1) := by
          show cnt (keysOf τ) 1 (t + 1) = ct + 1
          rw [HC1.out, if_pos hin]
        have hts := hR.rows.ts (1 + (t : Int))
        have HINC : Hid (Incr (tsL (1 + (t : Int)) τ)) := by
          have := HSTA.out.good.inc (1 + (t : Int))
          unfold at_ at this
          rw [← tsL_get] at this
          exact this
        have HREF : Hid (∀ y ∈ tsL (1 + (t : Int)) τ, 9 ≤ y ∧ y < 9 + m) := fun y hy => by
          have := HSTA.out.good.ref (1 + (t : Int)) y (by unfold at_; rw [← tsL_get]; exact hy)
          obtain ⟨j, hj, rfl, _⟩ := this
          omega
        obtain ⟨L, HL⟩ : ∃ L, Hid (tsL (1 + (t : Int)) τ = L) := ⟨_, (rfl : tsL (1 + (t : Int)) τ = tsL (1 + (t : Int)) τ)⟩
        rw [HL.out] at hts HINC HREF
        obtain ⟨sa, sc, hsv⟩ := row_form hts
        rw [hsv] at hlk hts
        clear hin hnH HC1
        have hLb : L.length ≤ 9223372036854775807 := by
          rcases hts.2 with ⟨_, e0⟩ | ⟨g, cp, cur, _, _, _, hnc, hcm, _⟩
          · omega
          · unfold maxLen at hcm; omega
        have HTS : Hid (wr.ownsRow N1 48 1 (.slice sa L.length sc) L.length (ints L)) := hts
        obtain ⟨ln, Hln⟩ : ∃ ln, Hid (L.length = ln) := ⟨_, (rfl : L.length = L.length)⟩
        rw [Hln.out] at hlk HTS hLb
        clear hts hsv
        go_wp2
        go_loopw [9] (fun s9 wx => ∃ j : Nat, j ≤ ln ∧ s9 = .int .i64 j ∧ RepT wx N1 RD HB RB H τ ∧ Below w.heap.size w wx ∧ wx.ownsRow N1 48 1 (.slice sa ln sc) ln (ints L)) (fun s9 _ => ln - (intOf s9).toNat)
        case atStart => exact ⟨0, Nat.zero_le _, rfl, hR, hBr, HTS.out⟩
        case round =>
          clear HTS hlk hlh r6 r7 hR hBr
          obtain ⟨j, hj, rfl, hR, hBr, hts⟩ := hrel
          have HR' : Hid (RepT wr N1 RD HB RB H τ) := hR
          have HB' : Hid (Below w.heap.size w wr) := hBr
          have HTS : Hid (wr.ownsRow N1 48 1 (.slice sa ln sc) ln (ints L)) := hts
          by_cases hjl : j < ln
          · obtain ⟨x, hx⟩ : ∃ x, L[j]? = some x := ⟨_, List.getElem?_eq_getElem (by rw [Hln.out]; exact hjl)⟩
            obtain ⟨g, cp, e', _, _⟩ := hts.form (by omega)
            simp only [Value.slice.injEq, true_and] at e'
            obtain ⟨rfl, rfl⟩ := e'
            have hcx : wr.cell? ⟨g, j, none⟩ = some (.int .i64 x) := by
              rw [hts.cellAt j (by omega)]
              simp [ints, hx]
            obtain ⟨hx9, hxm⟩ := HREF.out x (List.mem_of_getElem? hx)
            have hx9' : ¬ x < 9 := by omega
            have hxm' : ¬ (9 + (m : Int)) ≤ x := by omega
            cases j with
            | zero =>
              clear hts hR hBr hx
              go_wp2_with fail
              go_quiet (fail)
              go_wp2
              go_roundw
              case rel => exact ⟨1, by omega, by go_num, RepT.drewN HR'.out _, below_drewN HB'.out _, HTS.out⟩
              case measure => simp [intOf]; omega
            | succ j =>
              obtain ⟨y, hy⟩ : ∃ y, L[j]? = some y := ⟨_, List.getElem?_eq_getElem (by rw [Hln.out]; omega)⟩
              have hcy : wr.cell? ⟨g, j, none⟩ = some (.int .i64 y) := by
                rw [hts.cellAt j (by omega)]
                simp [ints, hy]
              have hyx : y < x := by
                obtain ⟨h1, e1⟩ := List.getElem?_eq_some_iff.1 hy
                obtain ⟨h2, e2⟩ := List.getElem?_eq_some_iff.1 hx
                rw [← e1, ← e2]
                exact List.pairwise_iff_getElem.1 HINC.out j (j + 1) h1 h2 (by omega)
              have hyx' : ¬ x ≤ y := by omega
              obtain ⟨hy9, hym⟩ := HREF.out y (List.mem_of_getElem? hy)
              have hd0 : (0 : Int) < (j : Int) + 1 := by omega
              clear hts hR hBr hx hy
              go_wp2_with fail
              go_quiet (fail)
              go_wp2
              go_roundw
              case rel => exact ⟨j + 1 + 1, by omega, by go_num, RepT.drewN HR'.out _, below_drewN HB'.out _, HTS.out⟩
              case measure => simp [intOf]; omega
          · clear hts hR hBr
            go_wp2
            go_roundw
            case rel => exact ⟨t + 1, by omega, by go_num, by rw [HC2.out]; go_num, HR'.out, HB'.out⟩
            case measure => simp [intOf]; omega
      · rw [show decide (1 + (t : Int) ∈ keysOf τ) = false by simp only [hin, decide_false]] at hlk
        have HC2 : Hid (cnt (keysOf τ) 1 (t + 1) = ct) := by
          show cnt (keysOf τ) 1 (t + 1) = ct
          rw [HC1.out, if_neg hin]; rfl
        clear hin HC1
        go_wp2
        go_roundw
        case rel => exact ⟨t + 1, by omega, by go_num, by rw [HC2.out], hR, hBr⟩
        case measure => simp [intOf]; omega
    · obtain rfl : t = 9 + m := by omega
      have hlm : ∀ ty, (Builtin.len_ #[52] ty #[.map (some RB)]).run Yba.prog wr = .ok (.int .i64 τ.length) wr := by
        intro ty
        have := run_lenMap (P := Yba.prog) hR.rm Yba.underlying52 ty
        rw [List.length_map] at this
        exact this
      rw [HCL.out] at hct ⊢
      have HR' : Hid (RepT wr N1 RD HB RB H τ) := hR
      have HB' : Hid (Below w.heap.size w wr) := hBr
      have hnt : ¬ (1 + ((9 + m : Nat) : Int)) ≤ 9 + (m : Int) := by omega
      clear hR hBr hlt
      go_wp2
      go_loopw [10] (fun si wx => ∃ i : Nat, i ≤ m ∧ si = .int .i64 i ∧ RepT wx N1 RD HB RB H τ ∧ Below w.heap.size w wx) (fun si _ => m - (intOf si).toNat)
      case atStart => exact ⟨0, Nat.zero_le _, rfl, HR'.out, HB'.out⟩
      case round =>
        clear HR' HB' hlm r6 r7
        obtain ⟨i, hi, rfl, hR, hBr⟩ := hrel
        have r6 := hR.r6
        by_cases hlt : i < m
        · have hlh : (Instr.lookup 51 (.map (some HB)) (.int .i64 (9 + (i : Int))) false).run Yba.prog wr = .ok (.bool (decide (9 + (i : Int) ∈ H))) wr := by
            rw [← get_hv]
            exact hR.hm.look Yba.underlying51 Yba.underlying48 rfl _
          by_cases hin : 9 + (i : Int) ∈ H
          · rw [show decide (9 + (i : Int) ∈ H) = true by simp [hin]] at hlh
            clear hin
            go_wp2
            go_roundw
            case rel => exact ⟨i + 1, by omega, by go_num, hR, hBr⟩
            case measure => simp [intOf]; omega
          · rw [show decide (9 + (i : Int) ∈ H) = false by simp [hin]] at hlh
            have HW : Hid (Waits (rsAt m ds) H (τ.map rhoT) i) := by
              rcases HSTA.out.wait i hlt hin with h | h
              · cases h
              · exact h
            obtain ⟨d, hd⟩ : ∃ d, ds[i]? = some d := ⟨_, List.getElem?_eq_getElem (by rw [Hm.out]; exact hlt)⟩
            have hmem := List.mem_of_getElem? hd
            have hD' := hD.below (w' := wr) hBr
            obtain ⟨b, off, rfl, hb, hc⟩ := hD'.cells (fun e => by rw [e] at hd; simp at hd)
            obtain ⟨c0, c1⟩ := hc i d hd
            obtain ⟨hk0, hrs, _⟩ := hD'.each d hmem
            have hS := hD'.sl hmem
            have hq := hok.2 d hmem
            obtain ⟨kd, rv, rs⟩ := d
            simp only at c0 c1 hk0 hrs hS hq
            obtain ⟨xs, HXS⟩ : ∃ xs, Hid (rsAt m ds i = xs) := ⟨_, (rfl : rsAt m ds i = rsAt m ds i)⟩
            have hxl : xs.length ≤ 256 := by rw [← HXS.out]; exact rsAt_length hok i
            obtain ⟨ln, Hln⟩ : ∃ ln, Hid (xs.length = ln) := ⟨_, (rfl : xs.length = xs.length)⟩
            rw [Hln.out] at hxl
            have CR : Hid (Calls Yba.prog 11 #[.agg #[.int .u8 kd, rv], .int .i64 m] wr fun e w' => ∃ sa sc, e = .returned (.slice sa ln sc) ∧ w'.ownsRow wr.heap.size 48 1 (.slice sa ln sc) ln (ints xs) ∧ RepT w' N1 RD HB RB H τ ∧ Below w.heap.size w w') := by
              refine Calls.mono (crefs_any m hm256 kd hk0 rs hrs hq rv wr hS) ?_
              rintro e w' ⟨v, rfl, h1, h2⟩
              have hxs : refsOf m kd rs = xs := by rw [← HXS.out]; simp [rsAt, hd]
              rw [hxs, Hln.out] at h1
              obtain ⟨sa, sc, rfl⟩ := row_form h1
              exact ⟨sa, sc, rfl, h1, hR.new h2, hBr.trans ((grownBy.below h2).mono hBr.size)⟩
            clear hD' hc hS hrs hR hBr hd hmem hin
            go_wp2_with (first
              | (go_at_call 11; refine Calls.mono CR.out ?_; rintro e w4 ⟨sa, sc, rfl, h1, h2, h3⟩; have H1 : Hid (w4.ownsRow wr.heap.size 48 1 (.slice sa ln sc) ln (ints xs)) := h1; have H2 : Hid (RepT w4 N1 RD HB RB H τ) := h2; have H3 : Hid (Below w.heap.size w w4) := h3; clear h1 h2 h3))
            clear CR
            go_loopw [114] (fun sq wx => ∃ q : Nat, q ≤ ln ∧ sq = .int .i64 q ∧ wx = w4) (fun sq _ => ln - (intOf sq).toNat)
            case atStart => exact ⟨0, Nat.zero_le _, rfl, rfl⟩
            case round =>
              obtain ⟨q, hql, rfl, rfl⟩ := hrel
              by_cases hqlt : q < ln
              · obtain ⟨x, hx⟩ : ∃ x, xs[q]? = some x := ⟨_, List.getElem?_eq_getElem (by rw [Hln.out]; exact hqlt)⟩
                have hxm : x ∈ rsAt m ds i := by rw [HXS.out]; exact List.mem_of_getElem? hx
                obtain ⟨hx8, hxH, hxw⟩ := HW.out x hxm
                have hrg := rsAt_range i x hxm
                have hxlo : 2 ≤ x ∧ x ≤ 9 + m := by omega
                obtain ⟨hxlo1, hxlo2⟩ := hxlo
                obtain ⟨g, cp, e', _, _⟩ := H1.out.form (by omega)
                simp only [Value.slice.injEq, true_and] at e'
                obtain ⟨rfl, rfl⟩ := e'
                have hcx : wr.cell? ⟨g, q, none⟩ = some (.int .i64 x) := by
                  rw [H1.out.cellAt q (by omega)]
                  simp [ints, hx]
                have q6 := H2.out.r6
                have q7 := H2.out.r7
                have hlx : (Instr.lookup 51 (.map (some HB)) (.int .i64 x) false).run Yba.prog wr = .ok (.bool false) wr := by
                  have := H2.out.hm.look (P := Yba.prog) Yba.underlying51 Yba.underlying48 (z := .bool false) rfl x
                  rw [get_hv, show decide (x ∈ H) = false by simp [hxH]] at this
                  exact this
                clear hrg hxm hx hlh
                by_cases h8 : x ≤ 8
                · clear hxw
                  go_wp2
                  go_roundw
                  case rel => exact ⟨q + 1, by omega, by go_num, by trivial⟩
                  case measure => simp [intOf]; omega
                · have h8' : 8 < x := by omega
                  have HME : Hid (9 + (i : Int) ∈ tsL x τ) := by
                    have := hxw h8'
                    unfold at_ at this
                    rw [← tsL_get] at this
                    exact this
                  have hlt2 : (Instr.lookup 52 (.map (some RB)) (.int .i64 x) false).run Yba.prog wr = .ok (tsV x τ) wr := by
                    rw [← tsV_get]
                    exact H2.out.rm.look Yba.underlying52 Yba.underlying48 rfl x
                  have hts := H2.out.rows.ts x
                  obtain ⟨L, HL⟩ : ∃ L, Hid (tsL x τ = L) := ⟨_, (rfl : tsL x τ = tsL x τ)⟩
                  rw [HL.out] at hts HME
                  obtain ⟨ta, tc, hsv⟩ := row_form hts
                  rw [hsv] at hlt2 hts
                  have hLb : L.length ≤ 9223372036854775807 := by
                    rcases hts.2 with ⟨_, e0⟩ | ⟨g, cp, cur, _, _, _, hnc, hcm, _⟩
                    · omega
                    · unfold maxLen at hcm; omega
                  have HTS : Hid (wr.ownsRow N1 48 1 (.slice ta L.length tc) L.length (ints L)) := hts
                  obtain ⟨tl, Htl⟩ : ∃ tl, Hid (L.length = tl) := ⟨_, (rfl : L.length = L.length)⟩
                  rw [Htl.out] at hlt2 HTS hLb
                  clear hts hsv hxw
                  go_wp2
                  go_loopw [14, 135] (fun sf sk wx => ∃ (k : Nat) (f : Bool), k ≤ tl ∧ sk = .int .i64 k ∧ sf = .bool f ∧ wx = wr ∧ (9 + (i : Int) ∈ L.take k → f = true)) (fun _ sk _ => tl - (intOf sk).toNat)
                  case atStart => exact ⟨0, false, Nat.zero_le _, rfl, rfl, rfl, fun h => by simp at h⟩
                  case round =>
                    obtain ⟨k, f, hk, rfl, rfl, rfl, hf⟩ := hrel
                    have HF : Hid (9 + (i : Int) ∈ L.take k → f = true) := hf
                    clear hf
                    by_cases hkl : k < tl
                    · obtain ⟨y, hy⟩ : ∃ y, L[k]? = some y := ⟨_, List.getElem?_eq_getElem (by rw [Htl.out]; exact hkl)⟩
                      obtain ⟨g, cp, e', _, _⟩ := HTS.out.form (by omega)
                      simp only [Value.slice.injEq, true_and] at e'
                      obtain ⟨rfl, rfl⟩ := e'
                      have hcy : wr.cell? ⟨g, k, none⟩ = some (.int .i64 y) := by
                        rw [HTS.out.cellAt k (by omega)]
                        simp [ints, hy]
                      have HT : Hid (L.take (k + 1) = L.take k ++ [y]) := by
                        show L.take (k + 1) = L.take k ++ [y]
                        rw [List.take_add_one, hy]; rfl
                      clear hy
                      by_cases hym : y = 9 + (i : Int)
                      · subst hym
                        go_wp2
                        go_roundw
                        case rel => exact ⟨k + 1, true, by omega, by go_num, by trivial, by trivial, fun _ => rfl⟩
                        case measure => simp [intOf]; omega
                      · go_wp2
                        go_roundw
                        case rel =>
                          refine ⟨k + 1, f, by omega, by go_num, by trivial, by trivial, fun h => ?_⟩
                          rw [HT.out] at h
                          rcases List.mem_append.1 h with h | h
                          · exact HF.out h
                          · exact absurd (List.mem_singleton.1 h).symm hym
                        case measure => simp [intOf]; omega
                    · obtain rfl : tl = k := by omega
                      obtain rfl : f = true := HF.out (by rw [List.take_of_length_le (Nat.le_of_eq Htl.out)]; exact HME.out)
                      go_wp2
                      go_roundw
                      case rel => exact ⟨q + 1, by omega, by go_num, by trivial⟩
                      case measure => simp [intOf]; omega
              · go_wp2
                go_roundw
                case rel => exact ⟨i + 1, by omega, by go_num, H2.out, H3.out⟩
                case measure => simp [intOf]; omega
        · go_wp2
          go_ret
          exact ⟨rfl, hBr⟩
end Go.Proofs.Ybulkazqi
