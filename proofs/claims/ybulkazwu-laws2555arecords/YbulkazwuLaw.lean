import Derived.Test.YbulkazwuMem
import Derived.BigQuiet
namespace Go.Proofs.Ybulkazwu
open Go.RowKit Go.Bs

theorem S30_grown {w V V' : World} {J TB : Nat} {c0 c1 c2 c3 c4 c5 t0 t1 t2 : Value}
    (h : V.cell? ⟨J, 0, none⟩ = some c0 ∧ V.cell? ⟨J, 1, none⟩ = some c1 ∧ V.cell? ⟨J, 2, none⟩ = some c2 ∧ V.cell? ⟨J, 3, none⟩ = some c3 ∧ V.cell? ⟨J, 4, none⟩ = some c4 ∧ V.cell? ⟨J, 5, none⟩ = some c5 ∧ V.cell? ⟨TB, 0, none⟩ = some t0 ∧ V.cell? ⟨TB, 1, none⟩ = some t1 ∧ V.cell? ⟨TB, 2, none⟩ = some t2 ∧ w.grownBy V none)
    (hg : V.grownBy V' none) :
    V'.cell? ⟨J, 0, none⟩ = some c0 ∧ V'.cell? ⟨J, 1, none⟩ = some c1 ∧ V'.cell? ⟨J, 2, none⟩ = some c2 ∧ V'.cell? ⟨J, 3, none⟩ = some c3 ∧ V'.cell? ⟨J, 4, none⟩ = some c4 ∧ V'.cell? ⟨J, 5, none⟩ = some c5 ∧ V'.cell? ⟨TB, 0, none⟩ = some t0 ∧ V'.cell? ⟨TB, 1, none⟩ = some t1 ∧ V'.cell? ⟨TB, 2, none⟩ = some t2 ∧ w.grownBy V' none := by
  obtain ⟨h0, h1, h2, h3, h4, h5, h6, h7, h8, h9⟩ := h
  exact ⟨cellG hg (.inl rfl) h0, cellG hg (.inl rfl) h1, cellG hg (.inl rfl) h2, cellG hg (.inl rfl) h3, cellG hg (.inl rfl) h4, cellG hg (.inl rfl) h5, cellG hg (.inl rfl) h6, cellG hg (.inl rfl) h7, cellG hg (.inl rfl) h8, grownBy.trans h9 hg⟩

set_option maxRecDepth 100000 in
set_option maxHeartbeats 4000000 in
theorem law_walk (i0 d bf : Int) (nd : Nat) (v4 v5 : Value) (mem sent : List Int) (w : World) (hd0 : -9223372036854775808 ≤ d) (hd1 : d ≤ 9223372036854775807) (hnd : nd ≤ 255)
    (hS4 : Sl (· < w.heap.size) w v4 (u8s mem)) (h4 : ∀ z ∈ mem, 0 ≤ z ∧ z ≤ 255) (hS5 : Sl (· < w.heap.size) w v5 (i64s sent)) :
    Calls Yba.prog 3 #[.int .i64 i0, .int .i64 d, .int .i64 bf, .int .u8 nd, v4, v5] w fun e w' => e = .returned (.bool true) ∧ Below w.heap.size w w' := by
  obtain ⟨a4, cap4, rfl, hcap4, hmax4, hcs4⟩ := hS4.shape
  obtain ⟨a5, cap5, rfl, hcap5, hmax5, hcs5⟩ := hS5.shape
  rw [u8s_length] at hcap4 hcs4 hS4 ⊢
  rw [i64s_length] at hcap5 hcs5 hS5 ⊢
  unfold maxLen at hmax4 hmax5
  obtain ⟨ml, HML⟩ : ∃ l, Hid (mem.length = l) := ⟨_, (rfl : mem.length = mem.length)⟩
  obtain ⟨sl, HSL⟩ : ∃ l, Hid (sent.length = l) := ⟨_, (rfl : sent.length = sent.length)⟩
  rw [HML.out] at hcap4 hcs4 hS4 ⊢
  rw [HSL.out] at hcap5 hcs5 hS5 ⊢
  have H4 : Hid (Sl (· < w.heap.size) w (.slice a4 ml cap4) (u8s mem)) := hS4
  have H5 : Hid (Sl (· < w.heap.size) w (.slice a5 sl cap5) (i64s sent)) := hS5
  have HZ : Hid (∀ z ∈ mem, 0 ≤ z ∧ z ≤ 255) := h4
  clear hS4 hS5 h4 hcs4 hcs5
  have hml : ml ≤ 9223372036854775807 := by omega
  have hsl : sl ≤ 9223372036854775807 := by omega
  by_cases h1 : 1024 < ml
  · have h1' : (1024 : Int) < ml := by omega
    go_enter Yba.func3, Yba.ntmps3
    go_wp2
    go_ret
    exact ⟨rfl, Below.refl _ _⟩
  have h1' : ¬ (1024 : Int) < ml := by omega
  by_cases h2 : 4096 < sl
  · have h2' : (4096 : Int) < sl := by omega
    go_enter Yba.func3, Yba.ntmps3
    go_wp2
    go_ret
    exact ⟨rfl, Below.refl _ _⟩
  have h2' : ¬ (4096 : Int) < sl := by omega
  obtain ⟨n, HN⟩ : ∃ n, Hid (nd % 8 + 1 = n) := ⟨_, (rfl : nd % 8 + 1 = nd % 8 + 1)⟩
  have hn0 : 1 ≤ n := by rw [← HN.out]; omega
  have hn8 : n ≤ 8 := by rw [← HN.out]; omega
  have hn : (nd : Int) % 8 + 1 = n := by rw [← HN.out]; omega
  obtain ⟨M49, hM49, hmk49⟩ := make49 n hn8
  go_enter Yba.func3, Yba.ntmps3
  go_wp2_with (go_at_call 4; refine Calls.mono (add_any d _ hd0 hd1) ?_; rintro e w1 ⟨ns, s, rfl, hns0, hns1, hg1⟩)
  obtain ⟨M63, hM63, hmk63⟩ := make63 ml (by omega)
  obtain ⟨M73, hM73, hmk73⟩ := make73 n hn8
  go_cut [14, 15] (fun s14 s15 wc => ∃ TB LR CK G, s14 = .pointer (some ⟨TB, 0, none⟩) ∧ s15 = .pointer (some ⟨LR, 0, none⟩) ∧ Fill w wc TB LR CK G n sent ns s (.slice none 0 0) 0 0 0)
  case first =>
    go_region
    all_goals (go_wp2_with fail)
    all_goals go_meet
    case rel => exact ⟨_, _, _, _, rfl, rfl, fillA hg1 hM49 sent ns s ⟨rfl, rfl, rfl, rfl⟩⟩
    case rel => exact ⟨_, _, _, _, rfl, rfl, fillB hg1 hM49 sent ns s ⟨rfl, rfl, rfl, rfl⟩⟩
  case rest =>
    obtain ⟨TB, LR, CK, G, rfl, rfl, hF⟩ := hcut
    have HF : Hid (Fill w wc TB LR CK G n sent ns s (.slice none 0 0) 0 0 0) := hF
    clear hg1 hF hmk49 hM49
    go_wp2
    go_loopw [16] (fun s16 wx => ∃ j : Nat, j ≤ n ∧ s16 = .int .i64 j ∧ Fill w wx TB LR CK G n sent ns s (.slice none 0 0) 0 j 0) (fun s16 _ => n - (intOf s16).toNat)
    case atStart => exact ⟨0, Nat.zero_le _, rfl, HF.out⟩
    case round =>
      clear HF
      obtain ⟨j, hj, rfl, hF⟩ := hrel
      by_cases hjn : j < n
      · have hjn' : (j : Int) < n := by omega
        have HF : Hid (Fill w wr TB LR CK G n sent ns s (.slice none 0 0) 0 j 0) := hF
        obtain ⟨wo, rfl⟩ : ∃ wo : World, wo = wr := ⟨_, rfl⟩
        clear hF
        go_wp2
        go_loopw [17] (fun s17 wx => ∃ t : Nat, t ≤ 20 ∧ s17 = .int .i64 t ∧ Fill w wx TB LR CK G n sent ns s (.slice none 0 0) 0 j t) (fun s17 _ => 20 - (intOf s17).toNat)
        case atStart => exact ⟨0, by omega, rfl, HF.out⟩
        case round =>
          clear HF
          obtain ⟨t, ht, rfl, hF⟩ := hrel
          by_cases ht20 : t < 20
          · have ht20' : (t : Int) < 20 := by omega
            have HS : Hid (Sl (· < w.heap.size) wr (.slice a5 sl cap5) (i64s sent)) := H5.out.grown hF.g (fun _ _ => by simp)
            have c17 : wr.cell? ⟨LR, 17, none⟩ = some (.slice (some ⟨G, 0, none⟩) n n) := (cell_of_row wr LR 17 _ 78 (0, 0) hF.lr).trans rfl
            obtain ⟨⟨vg, cg⟩, fg⟩ := hF.gcell (o := j * 21 + 1 + t) (by omega)
            have HN1 : Hid (Fill w (wr.setCell ⟨G, j * 21 + 1 + t, none⟩ (.int .i64 (aval sent j t))) TB LR CK G n sent ns s (.slice none 0 0) 0 j (t + 1)) := hF.set hjn ht20
            have c17' : (wr.setCell ⟨G, j * 21 + 1 + t, none⟩ (.int .i64 (aval sent j t))).cell? ⟨LR, 17, none⟩ = some (.slice (some ⟨G, 0, none⟩) n n) := (cell_of_row _ LR 17 _ 78 (0, 0) HN1.out.lr).trans rfl
            clear hF
            go_wp2
            go_region_held3 (fun V => V.cell? ⟨LR, 17, none⟩ = some (.slice (some ⟨G, 0, none⟩) n n))
              (first | assumption | exact c17 | exact c17')
              (first | (go_at_call 5; refine (aval_any (· < w.heap.size) _ sent j t ?_ ht20 _ HS.out.drew).mono ?_; omega; rintro e w1 ⟨rfl, rfl⟩))
            all_goals (go_wp2_with fail)
            all_goals go_roundw
            case rel => exact ⟨t + 1, by omega, by go_num, HN1.out.drew⟩
            case measure => simp [intOf]; omega
          · have HN1 : Hid (Fill w wr TB LR CK G n sent ns s (.slice none 0 0) 0 (j + 1) 0) := hF.next (by omega)
            clear hF
            go_wp2
            go_roundw
            case rel => exact ⟨j + 1, by omega, by go_num, HN1.out⟩
            case measure => simp [intOf]; omega
      · have HF : Hid (Fill w wr TB LR CK G n sent ns s (.slice none 0 0) 0 j 0) := hF
        clear hF
        obtain rfl : j = n := by omega
        have hjn' : ¬ (j : Int) < j := by omega
        obtain ⟨ms, HMS⟩ : ∃ ms, Hid (msOf j mem = ms) := ⟨_, (rfl : msOf j mem = msOf j mem)⟩
        have HLM : Hid (ms.length = ml) := by show ms.length = ml; rw [← HMS.out, ← HML.out]; simp [msOf]
        have HLT : Hid (∀ m ∈ ms, m < j) := by
          show ∀ m ∈ ms, m < j
          intro m hm
          rw [← HMS.out] at hm
          obtain ⟨z, _, rfl⟩ := List.mem_map.1 hm
          exact Nat.mod_lt _ (by omega)
        have HX : ∀ x m, ms[x]? = some m → Hid (∃ z : Nat, z ≤ 255 ∧ z % j = m ∧ ∃ b off, a4 = some ⟨b, off, none⟩ ∧ w.cell? ⟨b, off + x, none⟩ = some (.int .u8 (z : Int))) := by
          intro x m hm
          show ∃ z : Nat, z ≤ 255 ∧ z % j = m ∧ ∃ b off, a4 = some ⟨b, off, none⟩ ∧ w.cell? ⟨b, off + x, none⟩ = some (.int .u8 (z : Int))
          rw [← HMS.out] at hm
          simp only [msOf, List.getElem?_map, Option.map_eq_some_iff] at hm
          obtain ⟨z, hz, rfl⟩ := hm
          have hzz := HZ.out z (List.mem_of_getElem? hz)
          obtain ⟨_, _, e, _, _, _, hc⟩ := H4.out
          simp only [Value.slice.injEq] at e
          obtain ⟨rfl, _, rfl⟩ := e
          obtain ⟨b, off, rfl, _, _, hcc⟩ := hc (fun e => by have h1 := congrArg List.length e; rw [u8s_length, List.length_nil] at h1; obtain ⟨h2, _⟩ := List.getElem?_eq_some_iff.1 hz; omega)
          exact ⟨z.toNat, by omega, rfl, b, off, rfl, (hcc x (.int .u8 z) (by simp [u8s, hz])).trans (by rw [Int.toNat_of_nonneg hzz.1])⟩
        have HM0 : Hid (MsW w ((wr.alloc (.cells M63 3)).alloc (.cells M73 4)) TB LR CK G j sent ns s (.slice none 0 0) 0 wr.heap.size (wr.heap.size + 1) ms 0) := MsW.made HF.out ms (hM63.trans HLM.out.symm) hM73
        obtain ⟨MS, HMSB⟩ : ∃ MS, Hid (wr.heap.size = MS) := ⟨_, (rfl : wr.heap.size = wr.heap.size)⟩
        clear HF
        go_wp2
        rw [HMSB.out]
        go_loopw [20, 21] (fun s20 s21 wx => ∃ x : Nat, x ≤ ml ∧ s21 = .int .i64 x ∧ s20 = .int .i64 (dn j ms x) ∧ MsW w wx TB LR CK G j sent ns s (.slice none 0 0) 0 MS (MS + 1) ms x) (fun _ s21 _ => ml - (intOf s21).toNat)
        case atStart =>
          have := HM0.out
          rw [HMSB.out] at this
          exact ⟨0, Nat.zero_le _, rfl, by simp [dn, cnt_nil], this⟩
        case round =>
          clear HM0
          obtain ⟨x, hx, rfl, rfl, hM⟩ := hrel
          have hdn := dn_le j ms x
          by_cases hxl : x < ml
          · have hxl' : (x : Int) < ml := by omega
            obtain ⟨m, hm⟩ : ∃ m, ms[x]? = some m := ⟨_, List.getElem?_eq_getElem (by rw [HLM.out]; exact hxl)⟩
            obtain ⟨z, hz, hzm, b4, off4, rfl, hc4⟩ := (HX x m hm).out
            have hmj := HLT.out m (List.mem_of_getElem? hm)
            have d4 := cellG hM.f.g (.inl rfl) hc4
            obtain ⟨⟨vm, dm⟩, fm⟩ := hM.mcell (by rw [HLM.out]; exact hxl)
            have hzi : (z : Int) % (j : Int) = (m : Int) := by rw [← hzm]; omega
            have hj0 : (j : Int) ≠ 0 := by omega
            have hne := hM.ne
            obtain ⟨ds, fs⟩ := hM.scell hmj
            have hmj' : (m : Int) < j := by omega
            by_cases hin : m ∈ ms.take x
            · have HN1 : Hid (MsW w (wr.setCell ⟨MS, x, none⟩ (.int .i64 (m : Int))) TB LR CK G j sent ns s (.slice none 0 0) 0 MS (MS + 1) ms (x + 1)) := hM.stepIn hm hin
              have HD : Hid (dn j ms (x + 1) = dn j ms x) := dn_in hm hin
              rw [decide_eq_true hin] at ds
              clear hM hin hm hc4
              go_wp2
              go_roundw
              case rel => exact ⟨x + 1, by omega, by go_num, by rw [HD.out], HN1.out⟩
              case measure => simp [intOf]; omega
            · have HN1 : Hid (MsW w ((wr.setCell ⟨MS, x, none⟩ (.int .i64 (m : Int))).setCell ⟨MS + 1, m, none⟩ (.bool true)) TB LR CK G j sent ns s (.slice none 0 0) 0 MS (MS + 1) ms (x + 1)) := hM.stepNew hm hmj
              have HD : Hid (dn j ms (x + 1) = dn j ms x + 1) := dn_new hm hmj hin
              rw [decide_eq_false hin] at ds
              clear hM hin hm hc4
              go_wp2
              go_roundw
              case rel => exact ⟨x + 1, by omega, by go_num, by rw [HD.out]; go_num, HN1.out⟩
              case measure => simp [intOf]; omega
          · obtain rfl : x = ml := by omega
            have hxl' : ¬ (x : Int) < x := by omega
            obtain ⟨d12, f12⟩ := hM.lcell (o := 12) rfl
            have HR1 : Hid (MsW w (wr.setCell ⟨LR, 12, none⟩ (.slice (some ⟨MS, 0, none⟩) x x)) TB LR CK G j sent ns s (.slice (some ⟨MS, 0, none⟩) x x) 0 MS (MS + 1) ms x) := hM.ring rfl
            have HR2 : Hid (MsW w ((wr.setCell ⟨LR, 12, none⟩ (.slice (some ⟨MS, 0, none⟩) x x)).setCell ⟨LR, 15, none⟩ (.int .i64 bf)) TB LR CK G j sent ns s (.slice (some ⟨MS, 0, none⟩) x x) bf MS (MS + 1) ms x) := HR1.out.ring rfl
            have HST : Hid (Calls Yba.prog 6 #[.pointer (some ⟨LR, 15, none⟩), .int .i64 bf] (wr.setCell ⟨LR, 12, none⟩ (.slice (some ⟨MS, 0, none⟩) x x)) fun e w' => e = .returned (.tuple #[]) ∧ w' = (wr.setCell ⟨LR, 12, none⟩ (.slice (some ⟨MS, 0, none⟩) x x)).setCell ⟨LR, 15, none⟩ (.int .i64 bf)) :=
              store_any LR 15 _ bf _ (HR1.out.lcell (o := 15) rfl).1 (HR1.out.lcell (o := 15) rfl).2
            have HBE : Hid (Calls Yba.prog 7 #[.pointer (some ⟨LR, 0, none⟩), .int .i64 i0] ((wr.setCell ⟨LR, 12, none⟩ (.slice (some ⟨MS, 0, none⟩) x x)).setCell ⟨LR, 15, none⟩ (.int .i64 bf)) fun e w' => e = .returned (.tuple #[]) ∧ ∃ J MB l, EndW w w' TB LR MS J MB j ms sent i0 ns s bf l) := by
              have h2 := HR2.out
              have hl := HLM.out
              rw [← hl] at h2 ⊢
              refine (begin_any LR CK G MS j ms sent i0 ns s bf _ (h2.toRing rfl HLT.out) hn8 (by omega)).mono ?_
              rintro e w' ⟨rfl, J, MB, B, l, wx, rfl, hB⟩
              exact ⟨rfl, J, MB, l, EndW.made h2 HLT.out hB⟩
            clear hM HR1 HR2
            go_wp2_with (first
              | (go_at_call 6; refine Calls.mono HST.out ?_; rintro e w1 ⟨rfl, rfl⟩)
              | (go_at_call 7; refine Calls.mono HBE.out ?_; rintro e w5 ⟨rfl, J, MB, l, hE⟩; have c27 := hE.c27; have HE : Hid (EndW w w5 TB LR MS J MB j ms sent i0 ns s bf l) := hE; clear hE))
            have j0 : w5.cell? ⟨J, 0, none⟩ = some (.int .i64 i0) := cell_of_row w5 J 0 _ 87 (0, 0) HE.out.jc
            have j1 : w5.cell? ⟨J, 1, none⟩ = some (.int .u64 ns) := cell_of_row w5 J 1 _ 87 (0, 0) HE.out.jc
            have j2 : w5.cell? ⟨J, 2, none⟩ = some (.int .i64 s) := cell_of_row w5 J 2 _ 87 (0, 0) HE.out.jc
            have j3 : w5.cell? ⟨J, 3, none⟩ = some (.pointer none) := cell_of_row w5 J 3 _ 87 (0, 0) HE.out.jc
            have j4 : w5.cell? ⟨J, 4, none⟩ = some (.int .i64 bf) := cell_of_row w5 J 4 _ 87 (0, 0) HE.out.jc
            have j5 : w5.cell? ⟨J, 5, none⟩ = some (.int .i64 0) := cell_of_row w5 J 5 _ 87 (0, 0) HE.out.jc
            have t0 : w5.cell? ⟨TB, 0, none⟩ = some (.int .u64 ns) := cell_of_row w5 TB 0 _ 27 (0, 0) HE.out.tb
            have t1 : w5.cell? ⟨TB, 1, none⟩ = some (.int .i64 s) := cell_of_row w5 TB 1 _ 27 (0, 0) HE.out.tb
            have t2 : w5.cell? ⟨TB, 2, none⟩ = some (.pointer none) := cell_of_row w5 TB 2 _ 27 (0, 0) HE.out.tb
            go_cut [152] (fun s152 wc3 => s152 = .bool false ∧ EndW w wc3 TB LR MS J MB j ms sent i0 ns s bf l)
            case first =>
              go_region_held3 (fun V => V.cell? ⟨J, 0, none⟩ = some (.int .i64 i0) ∧ V.cell? ⟨J, 1, none⟩ = some (.int .u64 ns) ∧ V.cell? ⟨J, 2, none⟩ = some (.int .i64 s) ∧ V.cell? ⟨J, 3, none⟩ = some (.pointer none) ∧ V.cell? ⟨J, 4, none⟩ = some (.int .i64 bf) ∧ V.cell? ⟨J, 5, none⟩ = some (.int .i64 0) ∧
                  V.cell? ⟨TB, 0, none⟩ = some (.int .u64 ns) ∧ V.cell? ⟨TB, 1, none⟩ = some (.int .i64 s) ∧ V.cell? ⟨TB, 2, none⟩ = some (.pointer none) ∧ w5.grownBy V none)
                (first | assumption | exact S30_grown (by assumption) (by assumption) | exact ⟨j0, j1, j2, j3, j4, j5, t0, t1, t2, grownBy.drew (World.grownBy.refl _ _)⟩)
                (first | (go_at_call 8; refine Calls.mono (equal_same ns s _ hns0 hns1) ?_; rintro e w6 ⟨rfl, hg6⟩))
              all_goals (go_wp2_with fail)
              all_goals go_meet
              case rel => exact ⟨rfl, HE.out.kept (grownBy.ofDrew hg6)⟩
            case rest =>
              obtain ⟨rfl, hE⟩ := hcut
              have HE2 : Hid (EndW w wc TB LR MS J MB j ms sent i0 ns s bf l) := hE
              have c12 := hE.c12
              have c15 := hE.c15
              have j6 : wc.cell? ⟨J, 6, none⟩ = some (.map (some MB)) := cell_of_row wc J 6 _ 87 (0, 0) hE.jc
              have hlen : ∀ ty, (Builtin.len_ #[85] ty #[.map (some MB)]).run Yba.prog wc = .ok (goInt (dn j ms x)) wc := fun ty => by
                have := run_lenMap (P := Yba.prog) hE.mp Yba.underlying85 ty
                rw [hE.ln, HLM.out] at this
                exact this
              rw [HLM.out] at c12
              clear hE j0 j1 j2 j3 j4 j5 t0 t1 t2 c27 HE HST HBE d12 f12
              go_wp2_with (go_at_call 9; refine Calls.mono (load_any LR 15 bf _ c15) ?_; rintro e w1 ⟨rfl, rfl⟩)
              go_loopw [24] (fun s24 wx => ∃ y : Nat, y ≤ x ∧ s24 = .int .i64 y ∧ EndW w wx TB LR MS J MB j ms sent i0 ns s bf l) (fun s24 _ => x - (intOf s24).toNat)
              case atStart => exact ⟨0, Nat.zero_le _, rfl, HE2.out⟩
              case round =>
                clear HE2 c12 c15 j6 hlen
                obtain ⟨y, hy, rfl, hE⟩ := hrel
                by_cases hyx : y < x
                · have hyx' : (y : Int) < x := by omega
                  obtain ⟨m, hm⟩ : ∃ m, ms[y]? = some m := ⟨_, List.getElem?_eq_getElem (by rw [HLM.out]; exact hyx)⟩
                  obtain ⟨hmj, cm⟩ := hE.mm y m hm
                  obtain ⟨P, hget, hP⟩ := hE.ents m (List.mem_of_getElem? hm)
                  have j6 : wr.cell? ⟨J, 6, none⟩ = some (.map (some MB)) := cell_of_row wr J 6 _ 87 (0, 0) hE.jc
                  have hlk : (Instr.lookup 85 (.map (some MB)) (.int .i64 (m : Int)) true).run Yba.prog wr = .ok (.tuple #[.pointer (some ⟨P, 0, none⟩), .bool true]) wr := by
                    have := hE.mp.look_ok (P := Yba.prog) Yba.underlying85 Yba.underlying3 (z := .pointer none) rfl (m : Int)
                    rw [hget] at this
                    exact this
                  have HEP : Hid (EndW w wr TB LR MS J MB j ms sent i0 ns s bf l ∧ ∀ k, k < 10 → wr.cell? ⟨P, k, none⟩ = some (.int .i64 (aval sent m k))) := ⟨hE, hP⟩
                  obtain ⟨wo, rfl⟩ : ∃ wo : World, wo = wr := ⟨_, rfl⟩
                  clear hE hP hget hm
                  go_wp2
                  go_loopw [28] (fun s28 wx => ∃ k : Nat, k ≤ 10 ∧ s28 = .int .i64 k ∧ EndW w wx TB LR MS J MB j ms sent i0 ns s bf l ∧ ∀ k, k < 10 → wx.cell? ⟨P, k, none⟩ = some (.int .i64 (aval sent m k))) (fun s28 _ => 10 - (intOf s28).toNat)
                  case atStart => exact ⟨0, by omega, rfl, HEP.out⟩
                  case round =>
                    clear HEP
                    obtain ⟨k, hk, rfl, hE, hP⟩ := hrel
                    by_cases hk10 : k < 10
                    · have hk10' : (k : Int) < 10 := by omega
                      have cp := hP k hk10
                      have HEP : Hid (EndW w wr.drew TB LR MS J MB j ms sent i0 ns s bf l ∧ ∀ k, k < 10 → wr.drew.cell? ⟨P, k, none⟩ = some (.int .i64 (aval sent m k))) := ⟨hE.kept (grownBy.drew (World.grownBy.refl _ _)), hP⟩
                      have HS : Hid (Sl (· < w.heap.size) wr (.slice a5 sl cap5) (i64s sent)) := H5.out.grown hE.g (fun _ _ => by simp)
                      clear hE hP
                      go_wp2
                      go_region_held3 (fun V => V.cell? ⟨P, k, none⟩ = some (.int .i64 (aval sent m k)))
                        (first | assumption | exact cp)
                        (first | (go_at_call 5; refine (aval_any (· < w.heap.size) _ sent m k ?_ ?_ _ HS.out.drew).mono ?_; omega; omega; rintro e w1 ⟨rfl, rfl⟩))
                      all_goals (go_wp2_with fail)
                      all_goals go_roundw
                      case rel => exact ⟨k + 1, by omega, by go_num, HEP.out⟩
                      case measure => simp [intOf]; omega
                    · have hk10' : ¬ (k : Int) < 10 := by omega
                      have HEP : Hid (EndW w wr TB LR MS J MB j ms sent i0 ns s bf l) := hE
                      clear hE hP
                      go_wp2
                      go_roundw
                      case rel => exact ⟨y + 1, by omega, by go_num, HEP.out⟩
                      case measure => simp [intOf]; omega
                · have hyx' : ¬ (y : Int) < x := by omega
                  have HEP : Hid (EndW w wr TB LR MS J MB j ms sent i0 ns s bf l) := hE
                  clear hE
                  go_wp2
                  go_ret
                  exact ⟨rfl, grownBy.below HEP.out.g⟩
end Go.Proofs.Ybulkazwu
