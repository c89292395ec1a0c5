import Derived.Test.YbulkazwuSmall
import Derived.Test.YbulkazwuCount
import Derived.Deep.RegionHeld3
import Derived.Deep.DeepCutAuto
namespace Go.Proofs.Ybulkazwu
open Go.RowKit Go.Bs

/-- The rounds' logs: n rows of 21 cells in block G. -/
def Logs (W : World) (G n : Nat) (sent : List Int) : Prop := ∀ j t, j < n → t < 20 → W.cell? ⟨G, j * 21 + 1 + t, none⟩ = some (.int .i64 (aval sent j t))

/-- The Ring ahead of beginCount. -/
structure Ring (W : World) (LR CK G M n : Nat) (ms : List Nat) (sent : List Int) (ns s bf : Int) : Prop where
  lr : ∃ cs, W.heap[LR]? = some (.cells cs 78 (0, 0)) ∧ cs[0]? = some (.pointer (some ⟨CK, 0, none⟩)) ∧ cs[12]? = some (.slice (some ⟨M, 0, none⟩) ms.length ms.length) ∧ cs[15]? = some (.int .i64 bf) ∧ cs[17]? = some (.slice (some ⟨G, 0, none⟩) n n) ∧ (∃ v, cs[27]? = some v)
  ck : ∃ cs, W.heap[CK]? = some (.cells cs 48 (0, 0)) ∧ cs[0]? = some (.int .i32 0) ∧ cs[2]? = some (.int .u64 ns) ∧ cs[3]? = some (.int .i64 s) ∧ cs[4]? = some (.pointer none)
  mm : ∀ (x m : Nat), ms[x]? = some m → m < n ∧ W.cell? ⟨M, x, none⟩ = some (.int .i64 (m : Int))
  gg : Logs W G n sent
  mb : M < W.heap.size
  gb : G < W.heap.size

theorem S_grown {w V V' : World} {LR : Nat} {c b : Value} (h : V.cell? ⟨LR, 0, none⟩ = some c ∧ V.cell? ⟨LR, 15, none⟩ = some b ∧ w.grownBy V none) (hg : V.grownBy V' none) : V'.cell? ⟨LR, 0, none⟩ = some c ∧ V'.cell? ⟨LR, 15, none⟩ = some b ∧ w.grownBy V' none :=
  ⟨cellG hg (.inl rfl) h.1, cellG hg (.inl rfl) h.2.1, grownBy.trans h.2.2 hg⟩
theorem S_alloc {w V : World} {LR : Nat} {c b : Value} (h : V.cell? ⟨LR, 0, none⟩ = some c ∧ V.cell? ⟨LR, 15, none⟩ = some b ∧ w.grownBy V none) (o : Obj) : (V.alloc o).cell? ⟨LR, 0, none⟩ = some c ∧ (V.alloc o).cell? ⟨LR, 15, none⟩ = some b ∧ w.grownBy (V.alloc o) none := S_grown h (World.grownBy_alloc _ _ none)

def JcMade (w wc : World) (s4 : Value) (i ns s bf : Int) : Prop := ∃ J MB, s4 = .pointer (some ⟨J, 0, none⟩) ∧ w.heap.size ≤ J ∧ w.heap.size ≤ MB ∧ J ≠ MB ∧ w.grownBy wc none ∧
    wc.heap[J]? = some (.cells #[.int .i64 i, .int .u64 ns, .int .i64 s, .pointer none, .int .i64 bf, .int .i64 0, .map (some MB)] 87 (0, 0)) ∧ MapIs wc MB []
theorem rel1 {w w1 : World} (hg : w.drew.grownBy w1 none) (i ns s bf : Int) : JcMade w ((w1.alloc (.map #[] 0)).alloc (.cells #[.int .i64 i, .int .u64 ns, .int .i64 s, .pointer none, .int .i64 bf, .int .i64 0, .map (some w1.heap.size)] 87)) (.pointer (some ⟨w1.heap.size + 1, 0, none⟩)) i ns s bf := by
  have hs : w.heap.size ≤ w1.heap.size := hg.size
  exact ⟨_, w1.heap.size, rfl, by omega, hs, by omega, grownBy.trans (grownBy.ofDrew hg) (two_new w1 _ _).2, (two_new w1 _ _).1, (MapIs.made w1).alloc _⟩
theorem rel3 {w w1 : World} (hg : (w.alloc (.map #[] 0)).drew.grownBy w1 none) (i ns s bf : Int) : JcMade w (w1.alloc (.cells #[.int .i64 i, .int .u64 ns, .int .i64 s, .pointer none, .int .i64 bf, .int .i64 0, .map (some w.heap.size)] 87)) (.pointer (some ⟨w1.heap.size, 0, none⟩)) i ns s bf := by
  have hs : w.heap.size + 1 ≤ w1.heap.size := by have := hg.size; simpa using this
  have hg' := grownBy.ofDrew hg
  exact ⟨_, w.heap.size, rfl, by omega, Nat.le_refl _, by omega, grownBy.trans (World.grownBy_alloc w _ none) (grownBy.alloc hg' _), heap_alloc_new w1 _, ((MapIs.made w).grown hg' (by simp)).alloc _⟩

/-- In the midst of beginCount: x of the members noted. -/
structure BegW (w wx : World) (J MB B : Nat) (ms : List Nat) (sent : List Int) (i ns s bf : Int) (x : Nat) (l : List (Int × Value)) : Prop where
  g : w.grownBy wx none
  jc : wx.heap[J]? = some (.cells #[.int .i64 i, .int .u64 ns, .int .i64 s, .pointer none, .int .i64 bf, .int .i64 0, .map (some MB)] 87 (0, 0))
  mp : MapIs wx MB l
  nd : (l.map (·.1)).Nodup
  keys : ∀ κ, κ ∈ l.map (·.1) ↔ ∃ m ∈ ms.take x, κ = ((m : Nat) : Int)
  ents : ∀ (m : Nat) v, Bs.get (m : Int) l = some v → ∃ P, v = .pointer (some ⟨P, 0, none⟩) ∧ P < B ∧ ∀ k, k < 10 → wx.cell? ⟨P, k, none⟩ = some (.int .i64 (aval sent m k))
  lo : w.heap.size ≤ J ∧ w.heap.size ≤ MB
  hi : J < B ∧ MB < B ∧ B ≤ wx.heap.size
  ne : J ≠ MB

theorem BegW.grown {w wx wy : World} {J MB B : Nat} {ms : List Nat} {sent : List Int} {i ns s bf : Int} {x : Nat} {l : List (Int × Value)} (h : BegW w wx J MB B ms sent i ns s bf x l) {row : Option Nat} (hg : wx.grownBy wy row) (hr : ∀ b, row = some b → B ≤ b) (hwB : w.heap.size ≤ B) : BegW w wy J MB B ms sent i ns s bf x l := by
  have hb : ∀ b, b < B → wy.heap[b]? = wx.heap[b]? := fun b hb => hg.block b (by have := h.hi; omega) (fun e => by have := hr b e.symm; omega)
  refine ⟨grownBy.inner h.g hg (fun b e => by have := hr b e; omega), (hb J h.hi.1).trans h.jc, h.mp.kept (hb MB h.hi.2.1), h.nd, h.keys, fun m v hv => ?_, h.lo, ⟨h.hi.1, h.hi.2.1, Nat.le_trans h.hi.2.2 hg.size⟩, h.ne⟩
  obtain ⟨P, e, hP, hc⟩ := h.ents m v hv
  exact ⟨P, e, hP, fun k hk => (World.cell?_of_block (a := ⟨P, k, none⟩) (hb P hP)).trans (hc k hk)⟩

theorem BegW.wider {w wx : World} {J MB B B' : Nat} {ms : List Nat} {sent : List Int} {i ns s bf : Int} {x : Nat} {l : List (Int × Value)} (h : BegW w wx J MB B ms sent i ns s bf x l) (hB : B ≤ B') (hs : B' ≤ wx.heap.size) : BegW w wx J MB B' ms sent i ns s bf x l :=
  ⟨h.g, h.jc, h.mp, h.nd, h.keys, fun m v hv => by obtain ⟨P, e, hP, hc⟩ := h.ents m v hv; exact ⟨P, e, by omega, hc⟩, h.lo, ⟨by have := h.hi; omega, by have := h.hi; omega, hs⟩, h.ne⟩

theorem BegW.noted {w wx w2 : World} {J MB B : Nat} {ms : List Nat} {sent : List Int} {i ns s bf : Int} {x m A : Nat} {l : List (Int × Value)} (h : BegW w wx J MB B ms sent i ns s bf x l) (hm : ms[x]? = some m) (hA : A < B)
    (hc : ∀ k, k < 10 → wx.cell? ⟨A, k, none⟩ = some (.int .i64 (aval sent m k))) (hmp : MapIs w2 MB (put (m : Int) (.pointer (some ⟨A, 0, none⟩)) l)) (hg : wx.grownBy w2 (some MB)) :
    BegW w w2 J MB B ms sent i ns s bf (x + 1) (put (m : Int) (.pointer (some ⟨A, 0, none⟩)) l) := by
  have hne : ∀ P k v, wx.cell? ⟨P, k, none⟩ = some v → w2.cell? ⟨P, k, none⟩ = some v := fun P k v hv => cellG hg (.inr (fun e => h.mp.ne_cell hv (Option.some.inj e).symm)) hv
  refine ⟨grownBy.inner h.g hg (fun b e => by obtain rfl := Option.some.inj e; exact h.lo.2), (hg.block J (by have := h.hi; omega) (fun e => h.ne (Option.some.inj e))).trans h.jc, hmp, nodup_put _ _ _ h.nd, fun κ => ?_, fun m' v hv => ?_, h.lo, ⟨h.hi.1, h.hi.2.1, Nat.le_trans h.hi.2.2 hg.size⟩, h.ne⟩
  · rw [keys_put_iff, h.keys, List.take_add_one, hm]
    simp only [Option.toList_some, List.mem_append, List.mem_singleton]
    constructor
    · rintro (rfl | ⟨m', h1, h2⟩)
      · exact ⟨m, .inr rfl, rfl⟩
      · exact ⟨m', .inl h1, h2⟩
    · rintro ⟨m', h1 | rfl, h2⟩
      · exact .inr ⟨m', h1, h2⟩
      · exact .inl h2
  · by_cases e : (m' : Int) = (m : Int)
    · rw [e, get_put_same] at hv
      obtain rfl := Option.some.inj hv
      obtain rfl : m' = m := by omega
      exact ⟨A, rfl, hA, fun k hk => hne A k _ (hc k hk)⟩
    · rw [get_put_other _ _ e] at hv
      obtain ⟨P, e, hP, hc'⟩ := h.ents m' v hv
      exact ⟨P, e, hP, fun k hk => hne P k _ (hc' k hk)⟩

/-- In the midst of one member's ten records: k of them laid at A. -/
structure TenW (w wx : World) (J MB A : Nat) (ms : List Nat) (sent : List Int) (i ns s bf : Int) (x m k : Nat) (l : List (Int × Value)) : Prop where
  b : BegW w wx J MB A ms sent i ns s bf x l
  at_ : ∃ cs t, wx.heap[A]? = some (.cells cs t (0, 0)) ∧ cs.size = 10 ∧ ∀ q, q < k → cs[q]? = some (.int .i64 (aval sent m q))

theorem TenW.made {w wx : World} {J MB B : Nat} {ms : List Nat} {sent : List Int} {i ns s bf : Int} {x : Nat} {l : List (Int × Value)} (h : BegW w wx J MB B ms sent i ns s bf x l) (hwB : w.heap.size ≤ B) (m : Nat) (cs : Array Value) (t : TypeId) (hc : cs.size = 10) :
    TenW w (wx.alloc (.cells cs t)) J MB wx.heap.size ms sent i ns s bf x m 0 l :=
  ⟨(h.grown (World.grownBy_alloc wx _ none) (fun _ e => by cases e) hwB).wider h.hi.2.2 (by simp), cs, t, heap_alloc_new wx _, hc, fun q hq => by omega⟩

theorem TenW.cell {w wx : World} {J MB A : Nat} {ms : List Nat} {sent : List Int} {i ns s bf : Int} {x m k : Nat} {l : List (Int × Value)} (h : TenW w wx J MB A ms sent i ns s bf x m k l) (hk : k < 10) : (∃ v, wx.cell? ⟨A, k, none⟩ = some v) ∧ wx.frozen? ⟨A, k, none⟩ = false := by
  obtain ⟨cs, t, hh, hs, _⟩ := h.at_
  exact ⟨⟨cs[k]'(by omega), (cell_of_row wx A k cs t (0, 0) hh).trans (Array.getElem?_eq_getElem (by omega))⟩, frozen_of_row wx A k cs t hh⟩

theorem TenW.set {w wx : World} {J MB A : Nat} {ms : List Nat} {sent : List Int} {i ns s bf : Int} {x m k : Nat} {l : List (Int × Value)} (h : TenW w wx J MB A ms sent i ns s bf x m k l) (hk : k < 10) (hwA : w.heap.size ≤ A) :
    TenW w (wx.setCell ⟨A, k, none⟩ (.int .i64 (aval sent m k))) J MB A ms sent i ns s bf x m (k + 1) l := by
  obtain ⟨cs, t, hh, hs, hq⟩ := h.at_
  refine ⟨h.b.grown (row := some A) (grownBy.setCell (World.grownBy.refl _ _) (.inl rfl) _) (fun b e => by obtain rfl := Option.some.inj e; exact Nat.le_refl _) hwA, _, t, heap_setCell_same wx A k _ t _ hh, by simp [hs], fun q hq' => ?_⟩
  by_cases e : k = q
  · subst e
    simp [hs, hk]
  · simpa [Array.getElem?_setIfInBounds, e] using hq q (by omega)

theorem TenW.done {w wx : World} {J MB A : Nat} {ms : List Nat} {sent : List Int} {i ns s bf : Int} {x m k : Nat} {l : List (Int × Value)} (h : TenW w wx J MB A ms sent i ns s bf x m k l) (hk : k = 10) : BegW w wx J MB (A + 1) ms sent i ns s bf x l ∧ ∀ k, k < 10 → wx.cell? ⟨A, k, none⟩ = some (.int .i64 (aval sent m k)) := by
  subst hk
  obtain ⟨cs, t, hh, hs, hq⟩ := h.at_
  exact ⟨h.b.wider (Nat.le_succ _) (Array.getElem?_eq_some_iff.1 hh).1, fun k hk => (cell_of_row wx A k cs t (0, 0) hh).trans (hq k hk)⟩

set_option maxRecDepth 100000 in
set_option maxHeartbeats 4000000 in
theorem begin_any (LR CK G M n : Nat) (ms : List Nat) (sent : List Int) (i ns s bf : Int) (w : World) (h : Ring w LR CK G M n ms sent ns s bf) (_hn : n ≤ 8) (hl : ms.length ≤ 1024) :
    Calls Yba.prog 7 #[.pointer (some ⟨LR, 0, none⟩), .int .i64 i] w fun e w' => e = .returned (.tuple #[]) ∧ ∃ J MB B l wx, w' = wx.setCell ⟨LR, 27, none⟩ (.pointer (some ⟨J, 0, none⟩)) ∧ BegW w wx J MB B ms sent i ns s bf ms.length l := by
  obtain ⟨lc, hlr, l0, l12, l15, l17, u27, l27⟩ := h.lr
  obtain ⟨cc, hck, k0, k2, k3, k4⟩ := h.ck
  have c0 : w.cell? ⟨LR, 0, none⟩ = some (.pointer (some ⟨CK, 0, none⟩)) := (cell_of_row w LR 0 lc 78 (0, 0) hlr).trans l0
  have c12 : w.cell? ⟨LR, 12, none⟩ = some (.slice (some ⟨M, 0, none⟩) ms.length ms.length) := (cell_of_row w LR 12 lc 78 (0, 0) hlr).trans l12
  have c15 : w.cell? ⟨LR, 15, none⟩ = some (.int .i64 bf) := (cell_of_row w LR 15 lc 78 (0, 0) hlr).trans l15
  have c17 : w.cell? ⟨LR, 17, none⟩ = some (.slice (some ⟨G, 0, none⟩) n n) := (cell_of_row w LR 17 lc 78 (0, 0) hlr).trans l17
  have NOW : ∀ w1 : World, w.grownBy w1 none → Hid (Calls Yba.prog 15 #[.pointer (some ⟨CK, 0, none⟩)] w1 fun e w' => e = .returned (.agg #[.int .u64 ns, .int .i64 s, .pointer none]) ∧ w1.grownBy w' none) := fun w1 hg =>
    now_any CK ns s cc w1 ((hg.block CK (Array.getElem?_eq_some_iff.1 hck).1 (by simp)).trans hck) k0 k2 k3 k4
  have hmm : ∀ (t : TypeId) (w : World), (Instr.makeMap t none).run Yba.prog w = .ok (.map (some w.heap.size)) (w.alloc (.map #[] 0)) := fun _ _ => rfl
  go_enter Yba.func7, Yba.ntmps7
  go_wp2_with fail
  go_cut [4] (fun s4 wc => JcMade w wc s4 i ns s bf)
  case first =>
    go_region_held3 (fun V => V.cell? ⟨LR, 0, none⟩ = some (.pointer (some ⟨CK, 0, none⟩)) ∧ V.cell? ⟨LR, 15, none⟩ = some (.int .i64 bf) ∧ w.grownBy V none)
      (first | assumption | exact S_alloc (by assumption) _ | exact S_grown (by assumption) (by assumption) | exact ⟨c0, c15, grownBy.drew (World.grownBy.refl _ _)⟩)
      (first
        | (go_at_call 15; refine Calls.mono (NOW _ ?_).out ?_; exact (by assumption : _ ∧ _ ∧ _).2.2; rintro e w1 ⟨rfl, hg1⟩)
        | (go_at_call 9; refine (load_any _ _ bf _ ?_).mono ?_; exact (by assumption : _ ∧ _ ∧ _).2.1; rintro e w1 ⟨rfl, rfl⟩))
    all_goals (go_wp2_with fail)
    all_goals go_meet
    case rel => exact rel1 hg1 _ _ _ _
    case rel => exact rel1 hg1 _ _ _ _
    case rel => exact rel3 hg1 _ _ _ _
  case rest =>
    obtain ⟨J, MB, rfl, hJ, hMB, hJM, hg, hjc, hmap⟩ := hcut
    have HR : Hid (Ring w LR CK G M n ms sent ns s bf) := h
    have HJB : Hid (BegW w wc J MB wc.heap.size ms sent i ns s bf 0 []) :=
      ⟨hg, hjc, hmap, List.nodup_nil, fun κ => by simp, (fun m v hv => by cases hv), ⟨hJ, hMB⟩, ⟨(Array.getElem?_eq_some_iff.1 hjc).1, hmap.lt, Nat.le_refl _⟩, hJM⟩
    have HW : Hid (w.heap.size ≤ wc.heap.size) := hg.size
    have d12 := cellG hg (.inl rfl) c12
    have HC17 : Hid (w.cell? ⟨LR, 17, none⟩ = some (.slice (some ⟨G, 0, none⟩) n n)) := c17
    have HC27 : Hid (∃ v, w.cell? ⟨LR, 27, none⟩ = some v) := ⟨_, (cell_of_row w LR 27 lc 78 (0, 0) hlr).trans l27⟩
    have HF27 : Hid (w.frozen? ⟨LR, 27, none⟩ = false) := frozen_of_row w LR 27 lc 78 hlr
    have HLR : Hid (LR < w.heap.size) := (Array.getElem?_eq_some_iff.1 hlr).1
    obtain ⟨len, HL⟩ : ∃ len, Hid (ms.length = len) := ⟨_, (rfl : ms.length = ms.length)⟩
    rw [HL.out] at hl d12
    clear hlr l0 l12 l15 l17 l27 hck k0 k2 k3 k4 c0 c12 c15 c17 NOW hmm h hJ hMB hJM hg hjc hmap
    go_wp2
    go_loopw [27] (fun si wx => ∃ (x B : Nat) (l : List (Int × Value)), x ≤ len ∧ si = .int .i64 x ∧ w.heap.size ≤ B ∧ BegW w wx J MB B ms sent i ns s bf x l) (fun si _ => len - (intOf si).toNat)
    case atStart => exact ⟨0, _, [], Nat.zero_le _, rfl, HW.out, HJB.out⟩
    case round =>
      obtain ⟨x, B, l, hx, rfl, hwB, hW⟩ := hrel
      by_cases hlt : x < len
      · obtain ⟨m, hm⟩ : ∃ m, ms[x]? = some m := ⟨_, List.getElem?_eq_getElem (by rw [HL.out]; exact hlt)⟩
        obtain ⟨hmn, hcm⟩ := HR.out.mm x m hm
        have hcm' := cellG hW.g (.inl rfl) hcm
        have HM : Hid (ms[x]? = some m) := hm
        obtain ⟨wo, rfl⟩ : ∃ wo : World, wo = wr := ⟨_, rfl⟩
        obtain ⟨A, HA⟩ : ∃ A, Hid (wo.heap.size = A) := ⟨_, (rfl : wo.heap.size = wo.heap.size)⟩
        have HT := fun cs t hc => TenW.made hW hwB m cs t hc
        have hwA : w.heap.size ≤ A := by rw [← HA.out]; exact hW.g.size
        have HWD : Hid (BegW w wo J MB B ms sent i ns s bf x l) := hW
        have HT' : Hid (∀ cs t, cs.size = 10 → TenW w (wo.alloc (.cells cs t)) J MB A ms sent i ns s bf x m 0 l) := by rw [HA.out] at HT; exact HT
        clear hm hcm hW HT
        go_wp2
        rw [HA.out]
        go_loopw [31] (fun s31 wy => ∃ k : Nat, k ≤ 10 ∧ s31 = .int .i64 k ∧ TenW w wy J MB A ms sent i ns s bf x m k l) (fun s31 _ => 10 - (intOf s31).toNat)
        case atStart => exact ⟨0, by omega, rfl, HT'.out _ _ rfl⟩
        case round =>
          clear HT'
          obtain ⟨k, hk, rfl, hT⟩ := hrel
          by_cases hk10 : k < 10
          · have d17 := cellG hT.b.g (.inl rfl) HC17.out
            have dg : wr.cell? ⟨G, m * 21 + 1 + k, none⟩ = some (.int .i64 (aval sent m k)) := cellG hT.b.g (.inl rfl) (HR.out.gg m k hmn (by omega))
            obtain ⟨⟨va, dA⟩, fA⟩ := hT.cell hk10
            have hT' : Hid (TenW w (wr.setCell ⟨A, k, none⟩ (.int .i64 (aval sent m k))) J MB A ms sent i ns s bf x m (k + 1) l) := hT.set hk10 hwA
            have hmn' : (m : Int) < n := by omega
            clear hT
            go_wp2_with (go_at_call 16; refine Calls.mono (atRest_any G (m * 21) k hk10 _ _ dg) ?_; rintro e w1 ⟨rfl, rfl⟩)
            go_roundw
            case rel => exact ⟨k + 1, by omega, by go_num, hT'.out⟩
            case measure => simp [intOf]; omega
          · obtain ⟨hB1, hc10⟩ := hT.done (by omega)
            obtain ⟨w2, hrun, hmp2, hg2, hs2⟩ := MapIs.upd (P := Yba.prog) hB1.mp Yba.underlying85 Yba.underlying3 (m : Int) (.pointer (some ⟨A, 0, none⟩))
            have HN : Hid (BegW w w2 J MB (A + 1) ms sent i ns s bf (x + 1) (put (m : Int) (.pointer (some ⟨A, 0, none⟩)) l)) := hB1.noted HM.out (Nat.lt_succ_self _) hc10 hmp2 hg2
            have dj : wr.cell? ⟨J, 6, none⟩ = some (.map (some MB)) := cell_of_row wr J 6 _ 87 (0, 0) hB1.jc
            clear hT hB1 hc10 hmp2 hg2
            go_wp2
            go_roundw
            case rel => exact ⟨x + 1, A + 1, _, by omega, by go_num, by omega, HN.out⟩
            case measure => simp [intOf]; omega
      · obtain rfl : x = len := by omega
        have c27 := HC27.out
        have hW' : Hid (BegW w wr J MB B ms sent i ns s bf x l) := hW
        obtain ⟨v27, c27⟩ := c27
        have d27 := cellG hW.g (.inl rfl) c27
        have f27 := frozG hW.g (.inl rfl) HLR.out HF27.out
        clear hW
        go_wp2
        go_end0
        exact ⟨rfl, J, MB, B, l, wr, rfl, by rw [HL.out]; exact hW'.out⟩
end Go.Proofs.Ybulkazwu
