import Derived.Test.YbulkazqiRun
import Derived.Deep.Slices
import Derived.ChangeSlices
import Derived.ChangeSame
import Derived.ProofKit
import Derived.OpenShut
namespace Go.Proofs.Ybulkazqi
open Go.RowKit Go.Shelf Go.Bs Go.ChangeShapes Go.WideShapes Go.ChangeAt

/-- A slice of bytes that came in, as the walks read it. -/
theorem bytes_sl {w : World} {a : Addr} {len cap : Nat} {zs : List Int} (hl : len ≤ cap) (hm : cap ≤ maxLen) (hz : zs.length = cap) (hc : ∀ i, i < zs.length → w.cell? (a.add i) = some (.int .u8 (zs.getD i 0))) :
    Sl (· < w.heap.size) w (.slice (some a) len cap) (u8s (zs.take len)) := by
  have hln : (u8s (zs.take len)).length = len := by rw [u8s_length, List.length_take]; omega
  refine ⟨some a, cap, by rw [hln], by omega, hm, (fun h => by cases h), fun hne => ?_⟩
  have hp : 0 < len := by
    rcases Nat.eq_zero_or_pos len with h0 | h0
    · subst h0; simp [u8s] at hne
    · exact h0
  obtain ⟨b, off, spot⟩ := a
  have hspot : spot = none := by simpa [Addr.add] using World.cell?_spot (hc 0 (by omega))
  subst hspot
  have hc' : ∀ r, r < zs.length → w.cell? ⟨b, off + r, none⟩ = some (.int .u8 (zs.getD r 0)) := fun r hr => by rw [← Go.WideShapes.add_plain]; exact hc r hr
  refine ⟨b, off, rfl, World.block_lt_of_cell? _ _ (hc' 0 (by omega)), World.block_lt_of_cell? _ _ (hc' 0 (by omega)), fun i u hu => ?_⟩
  have hi : i < len := by have := (List.getElem?_eq_some_iff.1 hu).1; omega
  have : (u8s (zs.take len))[i]? = some (.int .u8 (zs.getD i 0)) := by
    simp [u8s, hi, show i < zs.length by omega]
  rw [this] at hu
  obtain rfl := Option.some.inj hu
  exact hc' i (by omega)

theorem u8_wf {n : Int} (h : (Lit.int .u8 n).wf = true) : 0 ≤ n ∧ n ≤ 255 := by
  have h' : IntKind.u8.min ≤ n ∧ n ≤ IntKind.u8.max := by simpa [Lit.wf] using h
  have a : IntKind.u8.min = 0 := by decide
  have b : IntKind.u8.max = 255 := by decide
  omega

theorem Yba.cells46 : Yba.prog.cellsOf 46 = 2 := by kernel_rfl
theorem Yba.cells5 : Yba.prog.cellsOf 5 = 1 := by kernel_rfl
theorem Yba.cells44 : Yba.prog.cellsOf 44 = 1 := by kernel_rfl

section
variable {H : Type} {enc : TypeId × Value → H} {W : World} {held : Bool}

/-- One definition that came in. -/
theorem open_def {fuel : Nat} {cs : List Value} {x : DataW H × List MemPlace} (h : DataW.trod enc Yba.prog W 0 (fun _ => true) held fuel 46 cs = some x) :
    ∃ d : DefT, cs = [.int .u8 d.1, d.2.1] ∧ 0 ≤ d.1 ∧ (∀ r ∈ d.2.2, 0 ≤ r ∧ r ≤ 255) ∧ Sl (· < W.heap.size) W d.2.1 (u8s d.2.2) := by
  obtain ⟨y0, y1, n, _, hl, h0, h1⟩ := trod_struct2 Yba.underlying46 h
  rw [Yba.cells46] at hl
  match cs, hl with
  | [c0, c1], _ =>
    obtain ⟨k, e0, _, hw⟩ := DataW.trod_int Yba.underlying5 (by simpa [Yba.cells5] using h0)
    simp at e0
    subst e0
    rcases open_ints Yba.underlying44 Yba.underlying5 Yba.cells5 (by simpa [Yba.cells44] using h1) with ⟨hcs, _⟩ | ⟨a, l, c, zs, hcs, _, hl, hm, hz, _, hcell, hwz⟩
    · simp at hcs
      subst hcs
      exact ⟨(k, .slice none 0 0, []), rfl, (u8_wf hw).1, (fun r hr => by cases hr), Sl.nil _ _⟩
    · simp at hcs
      subst hcs
      exact ⟨(k, .slice (some a) l c, zs.take l), rfl, (u8_wf hw).1, fun r hr => u8_wf (hwz r (List.mem_of_mem_take hr)), bytes_sl hl hm (by simpa using hz) hcell⟩

/-- The slice of definitions that came in. -/
theorem open_defs {fuel : Nat} {a0 : Option Addr} {len cap : Nat} {x : DataW H × List MemPlace} (h : DataW.trod enc Yba.prog W 0 (fun _ => true) held fuel 37 [.slice a0 len cap] = some x) :
    ∃ ds : List DefT, ds.length = len ∧ DefsIs W.heap.size W a0 cap ds := by
  rcases Go.Deep.open_slice Yba.underlying37 h with ⟨hcs, _⟩ | ⟨a, l, c, m, n, D, Pl, hcs, _, hl, hm, hmm, _, hx⟩
  · simp at hcs
    obtain ⟨rfl, rfl, rfl⟩ := hcs
    exact ⟨[], rfl, ⟨Nat.le_refl _, (fun h => absurd rfl h), (fun d hd => by cases hd)⟩⟩
  · simp at hcs
    obtain ⟨rfl, rfl, rfl⟩ := hcs
    simp at hmm
    subst hmm
    rw [Yba.cells46] at hx
    have hx' : ∀ i, i < m → ∃ d : DefT, W.cell? (a.add (i * 2)) = some (.int .u8 d.1) ∧ W.cell? (a.add (i * 2 + 1)) = some d.2.1 ∧ 0 ≤ d.1 ∧ (∀ r ∈ d.2.2, 0 ≤ r ∧ r ≤ 255) ∧ Sl (· < W.heap.size) W d.2.1 (u8s d.2.2) := by
      intro i hi
      obtain ⟨cs', h1, h2⟩ := hx i hi
      obtain ⟨d, rfl, h3⟩ := open_def h2
      obtain ⟨_, _, hcell⟩ := World.cells?_some h1
      have c0 := hcell 0 (by omega)
      have c1 := hcell 1 (by omega)
      rw [Go.Deep.add_add] at c0 c1
      exact ⟨d, by simpa using c0, by simpa using c1, h3⟩
    obtain ⟨F, hF⟩ := Go.Deep.choose_lt (α := DefT) hx'
    refine ⟨(List.range len).map F, by simp, ⟨by simpa using hl, fun hne => ?_, fun d hd => ?_⟩⟩
    · have hp : 0 < len := by
        rcases Nat.eq_zero_or_pos len with h0 | h0
        · subst h0; simp at hne
        · exact h0
      obtain ⟨b, off, spot⟩ := a
      have hspot : spot = none := by simpa [Addr.add] using World.cell?_spot (hF 0 (by omega)).1
      subst hspot
      refine ⟨b, off, rfl, ?_, fun i d hd => ?_⟩
      · have := (hF 0 (by omega)).1
        exact World.block_lt_of_cell? _ _ this
      · obtain ⟨hi, e⟩ := List.getElem?_eq_some_iff.1 hd
        simp at hi e
        subst e
        obtain ⟨h1, h2, _⟩ := hF i (by omega)
        rw [Go.WideShapes.add_plain] at h1 h2
        exact ⟨h1, h2⟩
    · obtain ⟨i, hi, rfl⟩ := List.mem_map.1 hd
      exact (hF i (by have := List.mem_range.1 hi; omega)).2.2
end
end Go.Proofs.Ybulkazqi
