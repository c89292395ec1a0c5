/-
  A range over a METHOD VALUE ('for x := range t.refs'): the function value bears its receiver ahead of yield. Own law over the kit's 'wpIn_rangeFunc' and 'roundIn_of_wpIn'. No program text.
-/
import Derived.RangeFuncWrites
import Derived.RangeFuncLeaves
import Derived.Shelf.Abstract
namespace Go.Bs
open Go.RowKit

/-- New blocks, and at most one loop's record or block of deferred calls turned. -/
def Turn (B : Nat) (W W' : World) : Prop := ∃ row, W.grownBy W' row ∧ ∀ r, row = some r → B ≤ r ∧ ∃ o, W.heap[r]? = some o ∧ ((∃ l, o = .loop l) ∨ ∃ d, o = .deferred d)
def Ab {β : Type} (B : Nat) (I : β → World → Prop) : Prop := ∀ s W W', I s W → Turn B W W' → I s W'

theorem Turn.alloc (B : Nat) (W : World) (o : Obj) : Turn B W (W.alloc o) := ⟨none, World.grownBy_alloc W o none, fun r h => by cases h⟩
theorem Turn.put {B : Nat} {W : World} {l : Nat} {r : Loop} (h : W.heap[l]? = some (.loop r)) (hB : B ≤ l) (o : Obj) : Turn B W (W.putObj l o) := ⟨some l, grownBy_putObj' W l o, fun k e => by cases e; exact ⟨hB, _, h, .inl ⟨_, rfl⟩⟩⟩
theorem Turn.new {B : Nat} {W W' : World} (h : W.grownBy W' none) : Turn B W W' := ⟨none, h, fun r e => by cases e⟩

/-- The iterator's word: rounds that hand back true carry J on; it needs C of every world between two rounds. -/
def Gives {α : Type} (F : Fence) (n : Nat) (P : Program) (gf : Nat) (rv : Value) (enc : α → Value) (xs : List α) (C : World → Prop) : Prop :=
  ∀ (l : Nat) (J Jx : List α → World → Prop) (W : World), (∀ s A, J s A → C A) → (∀ s A B, J s A → A.grownBy B none → J s B) →
    (∀ pre x W1, J pre W1 → pre ++ [x] <+: xs → YieldAt F (n - 1) P l #[enc x] W1 fun e W' => (e = .returned (.bool true) ∧ J (pre ++ [x]) W') ∨ (e = .returned (.bool false) ∧ Jx (pre ++ [x]) W')) →
    J [] W → CallsIn F n P gf #[rv, .func (.yield l) #[] #[]] W fun e W' => (∃ v, e = .returned v) ∧ (J xs W' ∨ (∃ pre, pre <+: xs ∧ Jx pre W'))

variable {F : Fence} {n : Nat} {P : Program}

/-- How the body of a round may be left. -/
def roundLeft {α : Type} (B : Nat) (I : List α → World → Prop) (Ix : Code → List α → World → Prop) (xs : List α) (W : World) : Exit → Act → World → Prop
  | .normal, _, W' => KeepsFrom B W W' ∧ I xs W'
  | .exit id, _, W' => KeepsFrom B W W' ∧ Ix (.exit id) xs W'
  | _, _, _ => False

theorem wpIn_range_method {α : Type} {g : Operand} {p : Tmp} {assign body : Code} {Q : Exit → Act → World → Prop} {a : Act} {w : World}
    (hro : F.round = none) (h1 : 1 ≤ n) {gf : Nat} {rv : Value} (hg : a.eval g = .func (.func gf) #[rv] #[]) (hFg : F.fn gf) (eg : ∀ args w, (callFunc gf args).run P w = .ok (.enter gf args) w)
    {enc : α → Value} {xs : List α} {C : World → Prop} (hseq : Gives F (n - 1) P gf rv enc xs C)
    (I : List α → World → Prop) (Ix : Code → List α → World → Prop) (hI : Ab w.heap.size I) (hIx : ∀ c, Ab w.heap.size (Ix c)) (hC : ∀ s A, I s A → C A) (h0 : I [] w) (a₁ : α → Act)
    (hassign : ∀ (l : Nat) (x : α) (W : World) (K : Act → World → Prop), K (a₁ x) W →
      assign.wpIn (F.inRound l) (n - 1 - 1) P (Exit.then K (fun _ _ _ => False)) { tmps := a.tmps.setIfInBounds p (enc x), defers := [] } W)
    (hbody : ∀ (l : Nat) (pre : List α) (x : α) (W : World), I pre W → pre ++ [x] <+: xs → body.wpIn (F.inRound l) (n - 1 - 1) P (roundLeft w.heap.size I Ix (pre ++ [x]) W) (a₁ x) W)
    (hdone : ∀ (D : Nat) (W : World), w.heap.size ≤ D → I xs W → W.heap[D]? = some (.deferred (some [])) → Q .normal { a with defers := { target := .collected D, args := #[] } :: a.defers } W)
    (hstop : ∀ (D : Nat) (c : Code) (pre : List α) (W : World), w.heap.size ≤ D → pre <+: xs → Ix c pre W → W.heap[D]? = some (.deferred (some [])) → c.wpIn F n P Q { a with defers := { target := .collected D, args := #[] } :: a.defers } W) :
    (Code.rangeFunc g #[p] assign body).wpIn F n P Q a w := by
  refine wpIn_rangeFunc fun fn hfn => ?_
  rw [hro]
  obtain ⟨D, hD⟩ : ∃ D, D = w.heap.size := ⟨_, rfl⟩
  obtain ⟨rec, hrec⟩ : ∃ rec : LoopState → Option Code → Loop, rec = fun st pe => { state := st, pending := pe, fn, tmps := a.tmps, params := #[p], assign, body, defers := D } := ⟨_, rfl⟩
  obtain ⟨W1, hW1⟩ : ∃ W1, W1 = (w.alloc (.deferred (some []))).alloc (.loop (rec .ready none)) := ⟨_, rfl⟩
  have hsz : (w.alloc (.deferred (some []))).heap.size = D + 1 := by rw [hD]; simp
  have hL1 : W1.heap[D + 1]? = some (.loop (rec .ready none)) := by
    have := World.alloc_heap_new (w.alloc (.deferred (some []))) (.loop (rec .ready none))
    rw [hsz, ← hW1] at this
    exact this
  have hK1 : W1.heap[D]? = some (.deferred (some [])) := by
    rw [hW1, hD]
    exact (Below.heap_alloc _ _ _ (by simp)).trans (World.alloc_heap_new w _)
  have hI1 : I [] W1 := by rw [hW1]; exact hI _ _ _ (hI _ _ _ h0 (Turn.alloc _ _ _)) (Turn.alloc _ _ _)
  -- the two blocks of book-keeping, beside the caller's word
  let J : List α → World → Prop := fun pre W => I pre W ∧ W.heap[D + 1]? = some (.loop (rec .ready none)) ∧ W.heap[D]? = some (.deferred (some []))
  let Jx : List α → World → Prop := fun pre W => ∃ c, Ix c pre W ∧ W.heap[D + 1]? = some (.loop (rec .done (some c))) ∧ W.heap[D]? = some (.deferred (some []))
  have hJn : ∀ s A B, J s A → A.grownBy B none → J s B := fun s A B hs hgr =>
    ⟨hI _ _ _ hs.1 (Turn.new hgr), (hgr.block _ (Array.getElem?_eq_some_iff.1 hs.2.1).1 (by simp)).trans hs.2.1, (hgr.block _ (Array.getElem?_eq_some_iff.1 hs.2.2).1 (by simp)).trans hs.2.2⟩
  have hround : ∀ pre x W, J pre W → pre ++ [x] <+: xs → YieldAt F (n - 1 - 1) P (D + 1) #[enc x] W fun e W' => (e = .returned (.bool true) ∧ J (pre ++ [x]) W') ∨ (e = .returned (.bool false) ∧ Jx (pre ++ [x]) W') := by
    rintro pre x W ⟨hi, hl, hk⟩ hpx
    have hlt : D + 1 < W.heap.size := (Array.getElem?_eq_some_iff.1 hl).1
    have hy := run_yield (P := P) (args := #[enc x]) hl (by rw [hrec]; rfl)
    have ht : ((rec .ready none).params.zip #[enc x]).foldl (fun tmps (t, a) => tmps.setIfInBounds t a) (rec .ready none).tmps = a.tmps.setIfInBounds p (enc x) := by rw [hrec]; simp
    rw [ht, show (rec .ready none).fn = fn by rw [hrec], show (rec .ready none).assign = assign by rw [hrec], show (rec .ready none).body = body by rw [hrec]] at hy
    refine ⟨fn, _, assign, body, hy, roundIn_of_wpIn hfn (hassign _ x W _ ⟨_, run_beginRound hl (by rw [hrec]), ?_⟩)⟩
    obtain ⟨W2, hW2⟩ : ∃ W2, W2 = W.putObj (D + 1) (.loop { rec .ready none with state := .busy }) := ⟨_, rfl⟩
    rw [← hW2]
    have hl2 : W2.heap[D + 1]? = some (.loop { rec .ready none with state := .busy }) := by rw [hW2]; exact World.putObj_heap_same hlt
    have hk2 : W2.heap[D]? = some (.deferred (some [])) := by rw [hW2]; exact (World.putObj_heap_other (by omega)).trans hk
    have hi2 : I pre W2 := by rw [hW2]; exact hI _ _ _ hi (Turn.put hl (by omega) _)
    refine wpIn_mono (hbody _ pre x W2 hi2 hpx) ?_
    have back : ∀ (jump : Option Code) (W3 : World), KeepsFrom w.heap.size W2 W3 →
        ∃ W4, (Instr.endRound (D + 1) jump).run P W3 = .ok (.bool jump.isNone) W4 ∧ Turn w.heap.size W3 W4 ∧ W4.heap[D + 1]? = some (.loop (rec (if jump.isNone then .ready else .done) jump)) ∧ W4.heap[D]? = some (.deferred (some [])) := fun jump W3 hk3 => by
      have hl3 := hk3.same _ _ (by omega) hl2 rfl
      have hd3 := hk3.same _ _ (by omega) hk2 rfl
      have hr := run_endRound (P := P) jump hl3
      have hrr : ({ { rec .ready none with state := .busy } with state := if jump.isNone then .ready else .done, pending := jump } : Loop) = rec (if jump.isNone then .ready else .done) jump := by rw [hrec]
      rw [hrr] at hr
      exact ⟨_, hr, Turn.put hl3 (by omega) _, World.putObj_heap_same (Array.getElem?_eq_some_iff.1 hl3).1, (World.putObj_heap_other (by omega)).trans hd3⟩
    rintro e a3 W3 hp
    cases e with
    | normal =>
      obtain ⟨hk3, hi3⟩ := hp
      obtain ⟨W4, hr, ht4, hl4, hk4⟩ := back none W3 hk3
      exact ⟨_, _, hr, .inl ⟨rfl, hI _ _ _ hi3 ht4, hl4, hk4⟩⟩
    | exit id =>
      obtain ⟨hk3, hi3⟩ := hp
      obtain ⟨W4, hr, ht4, hl4, hk4⟩ := back (some (.exit id)) W3 hk3
      exact ⟨_, _, hr, .inr ⟨rfl, .exit id, hIx _ _ _ _ hi3 ht4, hl4, hk4⟩⟩
    | ret => exact hp.elim
    | goto t => exact hp.elim
    | panic ch => exact hp.elim
    | outgrown => exact hp.elim
  refine ⟨D + 1, [{ target := .collected D, args := #[] }], W1, { target := .fn (.func gf) #[], args := #[rv, .func (.yield (D + 1)) #[] #[]] }, W1, gf,
    #[rv, .func (.yield (D + 1)) #[] #[]], W1, ?_, ?_, ?_, ?_, fun _ => h1, ?_⟩
  · have := run_enterLoop_outer (P := P) (w := w) fn a.tmps #[p] assign body
    rw [← hD] at this
    rw [this, hW1, hrec]
  · simp only [resolve, hg]
    simp [go_sem]
  · intro f' hf'
    simp [Target.leads] at hf'
    subst hf'
    exact hFg
  · simp [invoke, go_sem, eg]
  · refine (hseq (D + 1) J Jx W1 (fun s A hs => hC s A hs.1) hJn hround ⟨hI1, hL1, hK1⟩).mono ?_
    rintro e W5 ⟨⟨v, rfl⟩, (⟨hi, hl, hk⟩ | ⟨pre, hSp, c, hi, hl, hk⟩)⟩
    · have hr := run_endLoop (P := P) hl (by rw [hrec]; simp)
      rw [show (rec .ready none).pending = none by rw [hrec]] at hr
      exact ⟨none, _, hr, hdone D _ (by omega) (hI _ _ _ hi (Turn.put hl (by omega) _)) ((World.putObj_heap_other (by omega)).trans hk)⟩
    · have hr := run_endLoop (P := P) hl (by rw [hrec]; simp)
      rw [show (rec .done (some c)).pending = some c by rw [hrec]] at hr
      exact ⟨some c, _, hr, hstop D c pre _ (by omega) hSp (hIx c _ _ _ hi (Turn.put hl (by omega) _)) ((World.putObj_heap_other (by omega)).trans hk)⟩
end Go.Bs
