/-
  Regions that draw their order INSIDE A ROUND of a range over a function, at the wide fence: what holds of the plain walk holds there too (no operation is a defer). No program text.
-/
import Derived.Test.YbulkazqiRange
import Derived.RangeFuncCalls
import Derived.Shelf.RegionOpen
import Derived.Deep.RegionHeld3
import Derived.BigQuiet
namespace Go.Bs
open Go.RowKit

variable {n l : Nat} {P : Program} {ops : Array Oper} {Q : Exit → Act → World → Prop} {md : Region.Mode}

def noDefer (ops : Array Oper) : Bool := ops.all fun o => match o.op with | .defer _ => false | _ => true

theorem noDefer_spec (h : noDefer ops = true) {i : Nat} {o : Oper} (hi : ops[i]? = some o) : ∀ c, o.op ≠ .defer c := by
  intro c e
  have := Array.all_eq_true.1 h i (Array.getElem?_eq_some_iff.1 hi).1
  rw [(Array.getElem?_eq_some_iff.1 hi).2, e] at this
  cases this

theorem opIn_of_op {o : Oper} (hd : ∀ c, o.op ≠ .defer c) {a : Act} {w : World} {K : Act → World → Prop} (h : o.wp P a w K Q) : o.wpIn (Fence.wide.inRound l) n P a w K Q := by
  refine ⟨fun _ _ => trivial, ?_⟩
  rw [show (Fence.wide.inRound l).round = some l from rfl, Oper.semAt_some l _ _ hd]
  unfold Oper.wp at h
  generalize (execOp a.eval o).run P w = r at *
  cases r with
  | ok x w' =>
    cases x with
    | value v => exact h
    | skip => exact h
    | defer d => exact h
    | enter f args => exact ⟨fun h => (by cases h), CallsIn.inRound l (callsIn_wide.2 h)⟩
    | row row args => exact ⟨fun h => (by cases h), fun c cs _ => let ⟨v, w'', hr, hs⟩ := h c cs; ⟨v, w'', hr, stepsIn_wide.2 hs⟩⟩
    | round l' f tmps assign body => exact h.elim
    | _ => exact h
  | halt x w' => cases x <;> exact h

theorem anyIn_of_any (hd : noDefer ops = true) (hQ : ¬ LetsOut Q) : ∀ (fuel : Nat) (listed : Array Bool) (a : Act) (w : World), wpAny P md ops Q fuel listed a w → wpAnyIn (Fence.wide.inRound l) n P md ops Q fuel listed a w
  | 0, _, _, _, h => h
  | fuel + 1, listed, a, w, h => by
    refine ⟨h.1, fun i hi => ?_⟩
    have h1 := wpOp_mono (fun a w => anyIn_of_any hd hQ fuel (listed.setIfInBounds i true) a w) (h.2 i hi)
    unfold wpOp at h1
    unfold wpOpIn
    cases ho : ops[i]? with
    | none => rw [ho] at h1; exact h1
    | some o =>
      rw [ho] at h1
      simp only at h1 ⊢
      split
      · rename_i hw
        rw [if_pos hw] at h1
        rcases h1 with h1 | h1
        · exact opIn_of_op (noDefer_spec hd ho) h1
        · exact absurd h1.2 hQ
      · rename_i hw
        rw [if_neg hw] at h1
        exact ⟨fun _ _ => trivial, h1⟩

theorem wpIn_round_held {S : World → Prop} {id : Nat} {a : Act} {w : World} (hm : P.follows .mixedOrders = true) (hd : noDefer ops = true) (hQ : ¬ LetsOut Q)
    (h : wpAnyH P .any ops Q S ops.size (Array.replicate ops.size false) a w.drew) : (Code.region id ops true).wpIn (Fence.wide.inRound l) n P Q a w :=
  wpIn_region_any hm (anyIn_of_any hd hQ _ _ _ _ (wpAny_of_held _ _ _ _ h))

theorem wpIn_round_quiet {id : Nat} {a : Act} {w : World} {os : List Oper} (hm : P.follows .mixedOrders = true) (hd : noDefer os.toArray = true) (hQ : ¬ LetsOut Q) (hB : Region.lexB .any os.toArray = true)
    (h : wpQuiet P os.toArray (fun w' => ∃ n, w' = w.drewN n) (fun a' => ∀ w', (∃ n, w' = w.drewN n) → Q .normal a' w') os a) : (Code.region id os.toArray true).wpIn (Fence.wide.inRound l) n P Q a w := by
  simp only [Region.lexB, Bool.and_eq_true] at hB
  refine wpIn_region_any hm (anyIn_of_any hd hQ _ _ _ _ (wpAny_of_quiet (C := fun w' => ∃ n, w' = w.drewN n) (Q := fun a' => ∀ w', (∃ n, w' = w.drewN n) → Q .normal a' w') (fun _ w' hw' h => h w' hw') _ _ _ _ ⟨1, rfl⟩ ?_))
  have := wpAnyQ_lex (P := P) (C := fun w' => ∃ n, w' = w.drewN n) (Q := fun a' => ∀ w', (∃ n, w' = w.drewN n) → Q .normal a' w') (md := .any) hB.1 os.toArray.toList 0 (Array.replicate os.toArray.size false) a (by simp) (by simpa using hB.2) (by simpa using h)
  simpa using this
end Go.Bs
