import Derived.Test.YbulkazqiRefs
import Derived.Test.YbulkazqiRound
import Derived.Test.YbulkazqiRep
import Derived.Sort.LoopGhostIn
import Derived.Deep.AppendLies
import Derived.WalkSmall
namespace Go.Proofs.Ybulkazqi
open Go.RowKit Go.Shelf Go.Bs

attribute [local go_sem] Oper.semAt_some

/-- A variable's block. -/
def Box (W : World) (B : Nat) (t : TypeId) (v : Value) : Prop := W.heap[B]? = some (.cells #[v] t (0, 0))
theorem Box.cell {W : World} {B : Nat} {t : TypeId} {v : Value} (h : Box W B t v) : W.cell? ⟨B, 0, none⟩ = some v := by rw [cell_of_row W B 0 #[v] t (0, 0) h]; rfl
theorem Box.frozen {W : World} {B : Nat} {t : TypeId} {v : Value} (h : Box W B t v) : W.frozen? ⟨B, 0, none⟩ = false := frozen_of_row W B 0 #[v] t h
theorem Box.kept {W W' : World} {B : Nat} {t : TypeId} {v : Value} (h : Box W B t v) (hb : W'.heap[B]? = W.heap[B]?) : Box W' B t v := hb.trans h
theorem Box.lt {W : World} {B : Nat} {t : TypeId} {v : Value} (h : Box W B t v) : B < W.heap.size := (Array.getElem?_eq_some_iff.1 h).1

theorem TypeIs.kept {W W' : World} {T FB : Nat} {kd el ky : Int} {fs : List Int} {me : Int} (h : TypeIs W T FB kd el ky fs me) (h1 : W'.heap[T]? = W.heap[T]?) (h2 : W'.heap[FB]? = W.heap[FB]?) : TypeIs W' T FB kd el ky fs me :=
  ⟨(World.cell?_of_block (a := ⟨T, 2, none⟩) h1).trans h.id, (World.cell?_of_block (a := ⟨T, 0, none⟩) h1).trans h.c0, (World.cell?_of_block (a := ⟨T, 4, none⟩) h1).trans h.c4, (World.cell?_of_block (a := ⟨T, 5, none⟩) h1).trans h.c5,
    fun hk => (World.cell?_of_block (a := ⟨T, 7, none⟩) h1).trans (h.c7 hk), fun hk i hi => ⟨(World.cell?_of_block (a := ⟨FB, i * 2, none⟩) h2).trans (h.hf hk i hi).1, (World.cell?_of_block (a := ⟨FB, i * 2 + 1, none⟩) h2).trans (h.hf hk i hi).2⟩⟩

/-- A block of cells that are no ids. -/
def Plain (W : World) (b : Nat) : Prop := ∃ cs e fr, W.heap[b]? = some (.cells cs e fr) ∧ e ≠ 48 ∧ e ≠ 72

structure Held (w W : World) (N0 RD HB RB T FB B0 : Nat) (me : Int) (H pre : List Int) (τ0 : List Ent) (b : Bool) : Prop where
  rep : ∃ τ, RepT W N0 RD HB RB H τ ∧ τ.map rhoT = noteAll me pre (τ0.map rhoT)
  br : Box W B0 39 (.pointer (some ⟨RD, 0, none⟩))
  bt : Box W (B0 + 1) 60 (.pointer (some ⟨T, 0, none⟩))
  bh : Box W (B0 + 1 + 1) 4 (.bool b)
  below : Below N0 w W
  tt : W.heap[T]? = w.heap[T]?
  tf : W.heap[FB]? = w.heap[FB]?
  pt : Plain W T
  pf : Plain W FB

theorem Plain.keptT {B : Nat} {W W' : World} {b : Nat} (h : Plain W b) (ht : Turn B W W') : W'.heap[b]? = W.heap[b]? := by
  obtain ⟨cs, e, fr, hh, _, _⟩ := h
  obtain ⟨row, hg, hr⟩ := ht
  refine hg.block b (Array.getElem?_eq_some_iff.1 hh).1 (fun e => ?_)
  obtain ⟨_, o, ho, hk⟩ := hr b e.symm
  rw [hh] at ho
  rcases hk with ⟨_, rfl⟩ | ⟨_, rfl⟩ <;> cases ho
theorem Plain.kept {W W' : World} {b : Nat} (h : Plain W b) (hb : W'.heap[b]? = W.heap[b]?) : Plain W' b := by
  obtain ⟨cs, e, fr, hh, h1⟩ := h
  exact ⟨cs, e, fr, hb.trans hh, h1⟩
theorem Box.plain {W : World} {B : Nat} {t : TypeId} {v : Value} (h : Box W B t v) (h1 : t ≠ 48) (h2 : t ≠ 72) : Plain W B := ⟨_, _, _, h, h1, h2⟩
/-- It is none of the Reader's blocks. -/
theorem Plain.far {W : World} {N0 RD HB RB : Nat} {H : List Int} {τ : List Ent} {b : Nat} (h : Plain W b) (hr : RepT W N0 RD HB RB H τ) : b ≠ RD ∧ b ≠ HB ∧ b ≠ RB ∧ ∀ t ∈ τ, t.2.1.ownBlock ≠ some b := by
  obtain ⟨cs, e, fr, hh, h1, h2⟩ := h
  refine hr.far hh (fun _ _ e => by cases e) (fun cur e => ?_) ?_
  · cases e; exact h1 rfl
  · rintro rfl
    obtain ⟨cs', fr', hh'⟩ := hr.rt
    rw [hh] at hh'
    cases hh'
    exact h2 rfl

theorem Held.turn {B : Nat} {w W W' : World} {N0 RD HB RB T FB B0 : Nat} {me : Int} {H pre : List Int} {τ0 : List Ent} {b : Bool} (h : Held w W N0 RD HB RB T FB B0 me H pre τ0 b) (ht : Turn B W W') (hB : N0 ≤ B) (hs : N0 ≤ W.heap.size) : Held w W' N0 RD HB RB T FB B0 me H pre τ0 b := by
  obtain ⟨τ, hr, he⟩ := h.rep
  have kb : ∀ {X t v}, Box W X t v → t ≠ 48 → t ≠ 72 → Box W' X t v := fun hb h1 h2 => hb.kept ((hb.plain h1 h2).keptT ht)
  refine ⟨⟨τ, hr.turn ht, he⟩, kb h.br (by decide) (by decide), kb h.bt (by decide) (by decide), kb h.bh (by decide) (by decide), ?_, (h.pt.keptT ht).trans h.tt, (h.pf.keptT ht).trans h.tf, h.pt.kept (h.pt.keptT ht), h.pf.kept (h.pf.keptT ht)⟩
  obtain ⟨row, hg, hrow⟩ := ht
  exact h.below.grown hg hs (fun k e => Nat.le_trans hB (hrow k e).1)

theorem Yba.info48 : (Yba.prog.info? 48).map (fun i => (i.zero, i.size, i.bytes)) = some (some (.int .i64 0), 1, 8) := by kernel_rfl
theorem row_form {w : World} {B : Nat} {e : TypeId} {v : Value} {n : Nat} {xs : List Value} (h : w.ownsRow B e 1 v n xs) : ∃ a c, v = .slice a n c := by
  rcases h.2 with ⟨rfl, rfl⟩ | ⟨g, cap, cur, rfl, _⟩
  · exact ⟨_, _, rfl⟩
  · exact ⟨_, _, rfl⟩
theorem Held.hold {w W : World} {N0 RD HB RB T FB B0 : Nat} {me : Int} {H pre : List Int} {τ0 : List Ent} (h : Held w W N0 RD HB RB T FB B0 me H pre τ0 false) (hB : N0 ≤ B0) (hT' : T < B0) (hF' : FB < B0) : Held w (W.setCell ⟨B0 + 1 + 1, 0, none⟩ (.bool true)) N0 RD HB RB T FB B0 me H pre τ0 true := by
  obtain ⟨τ, hr, he⟩ := h.rep
  have hg : W.grownBy (W.setCell ⟨B0 + 1 + 1, 0, none⟩ (.bool true)) (some (B0 + 1 + 1)) := grownBy.setCell (World.grownBy.refl _ _) (.inl rfl) _
  have kb : ∀ b, b ≠ B0 + 1 + 1 → (W.setCell ⟨B0 + 1 + 1, 0, none⟩ (.bool true)).heap[b]? = W.heap[b]? := fun b hb => Below.heap_setCell _ _ _ _ hb
  have hT : T ≠ B0 + 1 + 1 := by omega
  have hF : FB ≠ B0 + 1 + 1 := by omega
  refine ⟨⟨τ, hr.grown hg (fun r e => ?_), he⟩, h.br.kept (kb _ (by omega)), h.bt.kept (kb _ (by omega)), ?_, h.below.setCell (by simp; omega) _, (kb _ hT).trans h.tt, (kb _ hF).trans h.tf, h.pt.kept (kb _ hT), h.pf.kept (kb _ hF)⟩
  · cases e
    exact (h.bh.plain (by decide) (by decide)).far hr
  · have := heap_setCell_same W (B0 + 1 + 1) 0 #[.bool false] 4 (.bool true) h.bh
    simpa [Box] using this
theorem Held.skip {w W : World} {N0 RD HB RB T FB B0 : Nat} {me : Int} {H pre : List Int} {τ0 : List Ent} {b : Bool} {x : Int} (h : Held w W N0 RD HB RB T FB B0 me H pre τ0 b) (hx : ¬ 8 < x) : Held w W N0 RD HB RB T FB B0 me H (pre ++ [x]) τ0 b :=
  by
  obtain ⟨τ, hr, he⟩ := h.rep
  exact ⟨⟨τ, hr, by rw [noteAll_snoc, if_neg hx]; exact he⟩, h.br, h.bt, h.bh, h.below, h.tt, h.tf, h.pt, h.pf⟩

theorem grownBy.ofDrewN {a b : World} {k : Nat} {row : Option Nat} (h : (a.drewN k).drew.grownBy b row) : a.grownBy b row := ⟨h.os, h.tape, h.output, h.size, h.block⟩
theorem Plain.row {W : World} {b N0 : Nat} {v : Value} {n : Nat} {xs : List Value} (h : Plain W b) (ho : W.ownsRow N0 48 1 v n xs) : v.ownBlock ≠ some b := by
  intro e
  obtain ⟨cs, t, fr, hh, h1, _⟩ := h
  rcases ho.2 with ⟨rfl, _⟩ | ⟨g, cap, cur, rfl, _, hg, _⟩
  · simp [Value.ownBlock] at e
  · simp [Value.ownBlock] at e
    subst e
    rw [hh] at hg
    cases hg
    exact h1 rfl
/-- 'r.referrers[id] = append(ts, t.ID)': the state behind it. -/
theorem Held.noted {w W W1 W2 : World} {N0 RD HB RB T FB B0 : Nat} {me x : Int} {H pre : List Int} {τ0 τ : List Ent} {b : Bool} (h : Held w W N0 RD HB RB T FB B0 me H pre τ0 b) (hr : RepT W N0 RD HB RB H τ) (he : τ.map rhoT = noteAll me pre (τ0.map rhoT))
    (hx : 8 < x) (hl : (tsL x τ).getLast? ≠ some me) {v' : Value} (hg1 : W.grownBy W1 (tsV x τ).ownBlock) {n' : Nat} {xs' : List Value} (hown : W1.ownsRow N0 48 1 v' n' xs') (hn' : n' = (tsL x τ ++ [me]).length) (hxs' : xs' = ints (tsL x τ ++ [me]))
    (hat : v'.ownBlock = (tsV x τ).ownBlock ∨ ∃ g, v'.ownBlock = some g ∧ W.heap.size ≤ g) (hm2 : MapIs W2 RB (put x v' (τ.map kvT))) (hg2 : W1.grownBy W2 (some RB)) (hsz : N0 ≤ W.heap.size) (hRB : RB < B0 + 1 + 1 + 1)
    (hcl : Clear H (pre ++ [x])) : KeepsFrom (B0 + 1 + 1 + 1) W W2 ∧ Clear H (pre ++ [x]) ∧ N0 ≤ W2.heap.size ∧ Held w W2 N0 RD HB RB T FB B0 me H (pre ++ [x]) τ0 b := by
  subst hn' hxs'
  have hts := hr.rows.ts x
  have hk : ∀ c, Plain W c → W2.heap[c]? = W.heap[c]? := fun c hc => by
    have hcl : c < W.heap.size := by obtain ⟨cs, e, fr, hh, _⟩ := hc; exact (Array.getElem?_eq_some_iff.1 hh).1
    refine (hg2.block c (Nat.lt_of_lt_of_le hcl hg1.size) (fun e => (hc.far hr).2.2.1 (Option.some.inj e))).trans (hg1.block c hcl (fun e => hc.row hts e.symm))
  have hrep := hr.store hg1 hown hat hm2 hg2
  refine ⟨KeepsFrom.trans ((KeepsOthers.of_grownBy hg1 (fun j o ej hj => ?_)).from _) (KeepsFrom.of_grownBy hg2 (fun j e => by cases e; exact hRB)), hcl, Nat.le_trans hsz (Nat.le_trans hg1.size hg2.size),
    ⟨_, hrep, ?_⟩, h.br.kept (hk _ (h.br.plain (by decide) (by decide))), h.bt.kept (hk _ (h.bt.plain (by decide) (by decide))), h.bh.kept (hk _ (h.bh.plain (by decide) (by decide))), ?_, (hk _ h.pt).trans h.tt, (hk _ h.pf).trans h.tf, h.pt.kept (hk _ h.pt), h.pf.kept (hk _ h.pf)⟩
  · rcases hts.2 with ⟨e', _⟩ | ⟨g, cap, cur, e', _, hg, _⟩
    · rw [e'] at ej; simp [Value.ownBlock] at ej
    · rw [e'] at ej
      simp [Value.ownBlock] at ej
      subst ej
      rw [hg] at hj
      cases hj
      rfl
  · rw [noteAll_snoc, if_pos hx, ← he]
    unfold note
    rw [← tsL_get, if_neg hl]
    exact put_map (fun (u : Value × List Int) => u.2) x (v', tsL x τ ++ [me]) τ
  · refine (h.below.grown hg1 hsz (fun k e => (hts.lt k e).1)).grown hg2 (Nat.le_trans hsz hg1.size) (fun k e => ?_)
    cases e
    exact hr.lo.2.2
theorem Held.same {w W : World} {N0 RD HB RB T FB B0 : Nat} {me x : Int} {H pre : List Int} {τ0 τ : List Ent} {b : Bool} (h : Held w W N0 RD HB RB T FB B0 me H pre τ0 b) (hr : RepT W N0 RD HB RB H τ) (he : τ.map rhoT = noteAll me pre (τ0.map rhoT)) (hl : (tsL x τ).getLast? = some me) : Held w W N0 RD HB RB T FB B0 me H (pre ++ [x]) τ0 b := by
  refine ⟨⟨τ, hr, ?_⟩, h.br, h.bt, h.bh, h.below, h.tt, h.tf, h.pt, h.pf⟩
  rw [noteAll_snoc, ← he]
  split
  · unfold note
    rw [← tsL_get, if_pos hl]
  · rfl
theorem Held.drewN {w W : World} {N0 RD HB RB T FB B0 : Nat} {me : Int} {H pre : List Int} {τ0 : List Ent} {b : Bool} (h : Held w W N0 RD HB RB T FB B0 me H pre τ0 b) (k : Nat) : Held w (W.drewN k) N0 RD HB RB T FB B0 me H pre τ0 b := by
  obtain ⟨⟨τ, hr, he⟩, h1, h2, h3, h4, h5, h6, h7, h8⟩ := h
  exact ⟨⟨τ, ⟨hr.r6, hr.r7, hr.hm, hr.rm, ⟨hr.rows.own, hr.rows.apart⟩, hr.rt, hr.ne, hr.lo⟩, he⟩, h1, h2, h3, ⟨h4.1, h4.2, h4.3, h4.4, h4.5⟩, h5, h6, h7, h8⟩

/-- 'append' inside a fence, by a run that is known ahead. -/
theorem wpListIn_app_run {F : Fence} {n : Nat} {P : Program} {w w' : World} {ops : Array Oper} {rest : List Oper} {o : Oper} {a : Act} {Q : Exit → Act → World → Prop} {v' : Value}
    (hg : o.guard = none) (s x : Operand) (t : TypeId) (hop : o.op = Op.call { callee := Callee.builtin Builtin.append, args := #[s, x], argTypes := #[t, t] })
    (hrun : (Builtin.append_ #[t, t] o.type #[a.eval s, a.eval x]).run P w = .ok v' w') (hK : wpListIn F n P ops Q rest (a.put o.dst v') w') : wpListIn F n P ops Q (o :: rest) a w := by
  refine wpListIn_plain hg fun K hK' => ?_
  unfold Oper.wpIn
  refine ⟨?_, ?_⟩
  · simp [Oper.about, hop, resolve, Target.leads, Sem.run_pure]
  · rw [Oper.semAt_plain F _ _ (by rw [hop]; intro c hc'; cases hc')]
    simp [execOp, hop, resolve, invoke, builtin, hrun, Result.andThen]
    exact hK' _ _ hK

/-- THE WORK LIST between two rounds. -/
structure Work (w W : World) (N0 RD HB RB B0 D : Nat) (me : Int) (H0 : List Int) (ρ1 : Rho) (k : Nat) (v : Value) (ids H : List Int) (τ : List Ent) : Prop where
  dr : ∃ j, Bs.drain j ([me], H0, ρ1) = (ids, H, τ.map rhoT)
  rep : RepT W N0 RD HB RB H τ
  own : W.ownsRow N0 48 1 v ids.length (ints ids)
  ap : ∀ t ∈ τ, Apart v t.2.1
  le : ids.length + tot (τ.map rhoT) ≤ k
  hi : k ≤ 2000000
  br : Box W B0 39 (.pointer (some ⟨RD, 0, none⟩))
  dd : W.heap[D]? = some (.deferred (some []))
  below : Below N0 w W
  sz : N0 ≤ W.heap.size

theorem deferred_row {W : World} {D N0 : Nat} {v : Value} {n : Nat} {xs : List Value} (h : W.heap[D]? = some (.deferred (some []))) (ho : W.ownsRow N0 48 1 v n xs) : v.ownBlock ≠ some D := by
  intro e
  rcases ho.2 with ⟨rfl, _⟩ | ⟨g, cap, cur, rfl, _, hg, _⟩
  · simp [Value.ownBlock] at e
  · simp [Value.ownBlock] at e
    subst e
    rw [h] at hg
    cases hg
theorem MapIs.ne_heap {W : World} {b D : Nat} {l : List (Int × Value)} (h : MapIs W b l) {o : Obj} (hD : W.heap[D]? = some o) (ho : ∀ es ck, o ≠ .map es ck) : D ≠ b := by
  rintro rfl
  obtain ⟨es, ck, hh, _⟩ := h
  rw [hD] at hh
  exact ho _ _ (Option.some.inj hh)

section
variable {w W : World} {N0 RD HB RB B0 D : Nat} {me : Int} {H0 : List Int} {ρ1 : Rho} {k : Nat} {v : Value} {ids H : List Int} {τ : List Ent}

/-- A pop that finds a holder. -/
theorem Work.pop {g cap m : Nat} {L0 : List Int} {y : Int} (h : Work w W N0 RD HB RB B0 D me H0 ρ1 k (.slice (some ⟨g, 0, none⟩) (m + 1) cap) (L0 ++ [y]) H τ) (hm : L0.length = m) (hy : y ∈ H) : Work w W N0 RD HB RB B0 D me H0 ρ1 (k - 1) (.slice (some ⟨g, 0, none⟩) m cap) L0 H τ := by
  obtain ⟨j, hj⟩ := h.dr
  subst hm
  have ho := h.own
  rw [ints_append, List.length_append] at ho
  have hle := h.le
  simp at hle
  refine ⟨⟨j + 1, ?_⟩, h.rep, ownsRow_pop (by simp [ints]) ho, fun t ht => h.ap t ht, by omega, by have := h.hi; omega, h.br, h.dd, h.below, h.sz⟩
  show Bs.dstep (Bs.drain j _) = _
  rw [hj]
  simp [Bs.dstep, hy]

/-- A pop that finds a new holder: the four steps, and the state behind them. -/
theorem Work.push {g cap m : Nat} {L0 : List Int} {y : Int} (h : Work w W N0 RD HB RB B0 D me H0 ρ1 k (.slice (some ⟨g, 0, none⟩) (m + 1) cap) (L0 ++ [y]) H τ) (hm : L0.length = m) (hy : y ∉ H) :
    ∃ w1 w2 w3 v', (Instr.mapUpdate 51 (.map (some HB)) (.int .i64 y) (.bool true)).run Yba.prog W = .ok () w1 ∧
      (Instr.lookup 52 (.map (some RB)) (.int .i64 y) false).run Yba.prog w1 = .ok (tsV y τ) w1 ∧
      (Builtin.append_ #[42, 42] 42 #[.slice (some ⟨g, 0, none⟩) m cap, tsV y τ]).run Yba.prog w1 = .ok v' w2 ∧
      (Builtin.delete_ #[52, 48] 0 #[.map (some RB), .int .i64 y]).run Yba.prog w2 = .ok (.tuple #[]) w3 ∧
      w1.cell? ⟨B0, 0, none⟩ = some (.pointer (some ⟨RD, 0, none⟩)) ∧ w1.cell? ⟨RD, 7, none⟩ = some (.map (some RB)) ∧ w2.cell? ⟨B0, 0, none⟩ = some (.pointer (some ⟨RD, 0, none⟩)) ∧ w2.cell? ⟨RD, 7, none⟩ = some (.map (some RB)) ∧
      ∃ ids', Work w w3 N0 RD HB RB B0 D me H0 ρ1 (k - 1) v' ids' (H ++ [y]) (Bs.del y τ) := by
  obtain ⟨j, hj⟩ := h.dr
  subst hm
  have ho := h.own
  rw [ints_append, List.length_append] at ho
  have ho0 : W.ownsRow N0 48 1 (.slice (some ⟨g, 0, none⟩) L0.length cap) L0.length (ints L0) := ownsRow_pop (by simp [ints]) ho
  have hle := h.le
  have hhi := h.hi
  simp at hle
  have hdl := tot_del y (τ.map rhoT)
  have htl : (tsL y τ).length = ((get y (τ.map rhoT)).getD []).length := by rw [tsL_get]
  obtain ⟨i0, hi, hz0, hz1, hz2⟩ := info_parts Yba.info48
  have hgD : g ≠ D := fun e => deferred_row h.dd ho0 (by rw [← e]; rfl)
  have hgB : g ≠ B0 := fun e => (h.br.plain (by decide) (by decide)).row ho0 (by rw [← e]; rfl)
  have hgR := h.rep.row_ne ho0 (b := g) rfl
  have hBR := (h.br.plain (by decide) (by decide)).far h.rep
  have hDH : D ≠ HB := MapIs.ne_heap h.rep.hm h.dd (fun _ _ e => by cases e)
  have hDR : D ≠ RB := MapIs.ne_heap h.rep.rm h.dd (fun _ _ e => by cases e)
  obtain ⟨w1, hmu, hm1, hg1, hs1⟩ := h.rep.hm.upd (P := Yba.prog) Yba.underlying51 Yba.underlying48 y (.bool true)
  have hr1 := h.rep.hold hy hm1 hg1
  have hl2 : (Instr.lookup 52 (.map (some RB)) (.int .i64 y) false).run Yba.prog w1 = .ok (tsV y τ) w1 := by
    rw [← tsV_get]
    exact hr1.rm.look Yba.underlying52 Yba.underlying48 rfl y
  have ho1 := ho0.kept hg1 (.inr (fun e => hgR.2.1 (Option.some.inj e)))
  have hts1 := hr1.rows.ts y
  obtain ⟨v', w2, hap, ho2, hg2, hat⟩ := run_app (P := Yba.prog) w1 N0 42 42 48 i0 _ 8 Yba.underlying42 hi hz0 hz1 hz2 rfl _ _ _ ho1 (tsV y τ) (ints (tsL y τ)) (Sl.ofOwns hts1) (ints_one _) (by unfold maxLen; rw [ints_length]; omega) (by rw [ints_length]; omega) (Nat.le_trans h.sz hg1.size)
  have hap1 : ∀ t ∈ τ, t.2.1.ownBlock ≠ some g := fun t ht => h.ap t ht g rfl
  have hr2 : RepT w2 N0 RD HB RB (H ++ [y]) τ := hr1.grown hg2 (fun r e => by cases e; exact ⟨hgR.1, hgR.2.1, hgR.2.2, hap1⟩)
  obtain ⟨w3, hdel, hm3, hg3, hs3⟩ := hr2.rm.drop (P := Yba.prog) Yba.underlying52 Yba.underlying48 0 y
  have hr3 := hr2.drop hm3 hg3
  have hlt : ∀ b, b < W.heap.size → b ≠ HB → b ≠ g → w2.heap[b]? = W.heap[b]? := fun b hb h1 h2 =>
    (hg2.block b (Nat.lt_of_lt_of_le hb hg1.size) (fun e => h2 (Option.some.inj e))).trans (hg1.block b hb (fun e => h1 (Option.some.inj e)))
  have hlt3 : ∀ b, b < W.heap.size → b ≠ HB → b ≠ g → b ≠ RB → w3.heap[b]? = W.heap[b]? := fun b hb h1 h2 h3 =>
    (hg3.block b (Nat.lt_of_lt_of_le hb (Nat.le_trans hg1.size hg2.size)) (fun e => h3 (Option.some.inj e))).trans (hlt b hb h1 h2)
  have hDl : D < W.heap.size := (Array.getElem?_eq_some_iff.1 h.dd).1
  have b1 : Box w1 B0 39 (.pointer (some ⟨RD, 0, none⟩)) := h.br.kept (hg1.block B0 h.br.lt (fun e => hBR.2.1 (Option.some.inj e)))
  have b2 : Box w2 B0 39 (.pointer (some ⟨RD, 0, none⟩)) := h.br.kept (hlt B0 h.br.lt hBR.2.1 (Ne.symm hgB))
  refine ⟨w1, w2, w3, v', hmu, hl2, hap, hdel, b1.cell, hr1.r7, b2.cell, hr2.r7, L0 ++ tsL y τ, ⟨j + 1, ?_⟩, hr3, ?_, ?_, ?_, by omega, h.br.kept (hlt3 B0 h.br.lt hBR.2.1 (Ne.symm hgB) hBR.2.2.1), (hlt3 D hDl hDH (Ne.symm hgD) hDR).trans h.dd, ?_, Nat.le_trans h.sz (Nat.le_trans hg1.size (Nat.le_trans hg2.size hg3.size))⟩
  · show Bs.dstep (Bs.drain j _) = _
    rw [hj]
    simp only [Bs.dstep, List.getLast?_append, List.getLast?_singleton, Option.some_or, if_neg hy, List.dropLast_append_of_ne_nil, List.dropLast_singleton, List.append_nil, ne_eq, List.cons_ne_nil, not_false_eq_true]
    rw [tsL_get, show (Bs.del y τ).map rhoT = Bs.del y (τ.map rhoT) from del_map (fun (u : Value × List Int) => u.2) y τ]
  · have := ho2.kept hg3 (.inr (fun e => hr2.row_ne ho2 e |>.2.2 rfl))
    rw [ints_append, List.length_append]
    rw [ints_length] at this
    exact this
  · intro t ht b hb e
    rcases hat with hat | hat
    · rw [hat] at hb
      exact h.ap t (mem_del ht) b hb e
    · rw [hat] at hb
      obtain rfl := Option.some.inj hb
      have := ((hr1.rows.own t (mem_del ht)).lt _ e).2
      omega
  · rw [show (Bs.del y τ).map rhoT = Bs.del y (τ.map rhoT) from del_map (fun (u : Value × List Int) => u.2) y τ, List.length_append]
    omega
  · refine ((h.below.grown hg1 h.sz (fun k e => ?_)).grown hg2 (Nat.le_trans h.sz hg1.size) (fun k e => ?_)).grown hg3 (Nat.le_trans h.sz (Nat.le_trans hg1.size hg2.size)) (fun k e => ?_)
    · cases e; exact h.rep.lo.2.1
    · exact (ho0.lt k e).1
    · cases e; exact h.rep.lo.2.2
end

set_option linter.unusedSimpArgs false in
set_option maxRecDepth 100000 in
set_option maxHeartbeats 2000000 in
theorem note_any (N0 RD HB RB T FB : Nat) (H : List Int) (τ : List Ent) (kd el ky : Int) (fs : List Int) (me : Int) (w : World)
    (hR : RepT w N0 RD HB RB H τ) (hT : TypeIs w T FB kd el ky fs me) (hTt : Plain w T) (hFt : Plain w FB)
    (hk : kd = 2 ∨ kd = 4 ∨ kd = 3 ∨ kd = 5) (hfl : fs.length ≤ 4096) (hN : N0 ≤ w.heap.size) (hb : tot (τ.map rhoT) ≤ 1000000) :
    Calls Yba.prog 12 #[.pointer (some ⟨RD, 0, none⟩), .pointer (some ⟨T, 0, none⟩)] w fun e w' => e = .returned (.tuple #[]) ∧
      ∃ H' τ', RepT w' N0 RD HB RB H' τ' ∧ NoteStep (yields kd el ky fs) me H (τ.map rhoT) H' (τ'.map rhoT) ∧ Below N0 w w' := by
  refine (callsIn_wide (n := 4)).1 ?_
  refine callsIn_of_wp_marks Yba.func12 rfl trivial ?_ rfl
  simp only [Yba.ntmps12, List.size_toArray, List.length_cons, List.length_nil, Nat.reduceAdd, Nat.reduceSub, Array.replicate_succ, Array.replicate_zero, List.push_toArray, List.append_toArray, List.nil_append, List.cons_append]
  have hmf : ∀ (fn : Fn) (first cap : Array Value) (w : World), (Instr.makeFunc fn first cap).run Yba.prog w = .ok (.func fn first cap) w := fun _ _ _ _ => rfl
  gi_wp2
  have hTl : T < w.heap.size := by obtain ⟨cs, e, fr, hh, _⟩ := hTt; exact (Array.getElem?_eq_some_iff.1 hh).1
  have hFl : FB < w.heap.size := by obtain ⟨cs, e, fr, hh, _⟩ := hFt; exact (Array.getElem?_eq_some_iff.1 hh).1
  have hH0 : Held w (((w.alloc (.cells #[.pointer (some ⟨RD, 0, none⟩)] 39)).alloc (.cells #[.pointer (some ⟨T, 0, none⟩)] 60)).alloc (.cells #[.bool false] 4)) N0 RD HB RB T FB w.heap.size me H [] τ false := by
    have e3 : ∀ b, b < w.heap.size → (((w.alloc (.cells #[.pointer (some ⟨RD, 0, none⟩)] 39)).alloc (.cells #[.pointer (some ⟨T, 0, none⟩)] 60)).alloc (.cells #[.bool false] 4)).heap[b]? = w.heap[b]? := fun b hb =>
      (Below.heap_alloc _ _ _ (by simp; omega)).trans ((Below.heap_alloc _ _ _ (by simp; omega)).trans (Below.heap_alloc _ _ _ hb))
    refine ⟨⟨τ, ((hR.alloc _).alloc _).alloc _, rfl⟩, ?_, ?_, ?_, (((Below.refl N0 w).alloc hN _).alloc (by simp; omega) _).alloc (by simp; omega) _, e3 T hTl, e3 FB hFl, hTt.kept (e3 T hTl), hFt.kept (e3 FB hFl)⟩
    · exact (Below.heap_alloc _ _ _ (by simp; omega)).trans ((Below.heap_alloc _ _ _ (by simp)).trans (heap_alloc_new w _))
    · refine (Below.heap_alloc _ _ _ (by simp)).trans ?_
      have := heap_alloc_new (w.alloc (.cells #[.pointer (some ⟨RD, 0, none⟩)] 39)) (.cells #[.pointer (some ⟨T, 0, none⟩)] 60)
      simpa using this
    · have := heap_alloc_new ((w.alloc (.cells #[.pointer (some ⟨RD, 0, none⟩)] 39)).alloc (.cells #[.pointer (some ⟨T, 0, none⟩)] 60)) (.cells #[.bool false] 4)
      unfold Box
      simpa using this
  refine wpIn_range_method (α := Int) rfl (by omega) (gf := 15) (rv := .pointer (some ⟨T, 0, none⟩)) rfl trivial (enters_of Yba.func15 (by kernel_rfl) rfl)
    (refs_gives 3 (by omega) T FB kd el ky fs me hk hfl)
    (fun pre W => Clear H pre ∧ N0 ≤ W.heap.size ∧ Held w W N0 RD HB RB T FB w.heap.size me H pre τ false)
    (fun c pre W => c = .exit 0 ∧ N0 ≤ W.heap.size ∧ ∃ pre0 x, pre = pre0 ++ [x] ∧ Clear H pre0 ∧ (x = 8 ∨ x ∈ H) ∧ Held w W N0 RD HB RB T FB w.heap.size me H pre0 τ true)
    ?hI ?hIx (fun s A hs => hT.kept hs.2.2.tt hs.2.2.tf) ⟨fun x hx => (by cases hx), (by simp; omega), hH0⟩
    (fun x => { tmps := #[.pointer (some ⟨RD, 0, none⟩), .pointer (some ⟨T, 0, none⟩), .pointer (some ⟨w.heap.size, 0, none⟩), .pointer (some ⟨w.heap.size + 1, 0, none⟩), .pointer (some ⟨w.heap.size + 1 + 1, 0, none⟩), .int .i64 x, undef, undef, undef, .pointer (some ⟨T, 0, none⟩), .func (.func 15) #[.pointer (some ⟨T, 0, none⟩)] #[], .int .i64 x, undef, undef, undef, undef, undef, undef, undef, undef, undef, undef, undef, undef, undef, undef, undef, undef, undef, undef, undef, undef, undef, undef, undef, undef, undef, undef, undef, undef, undef, undef, undef, undef, undef, undef, undef, undef, undef, undef, undef, undef, undef, undef, undef, undef, undef, undef, undef, undef, undef, undef, undef, undef, undef, undef, undef, undef, undef, undef, undef, undef, undef, undef, undef, undef, undef, undef, undef, undef, undef, undef, undef, undef, undef, undef, undef, undef, undef, undef, undef, undef, undef, undef, undef, undef, undef, undef, undef, undef, undef, undef, undef, undef], defers := [] }) ?assign ?body ?done ?stop
  case hI => exact fun s W W' hs ht => ⟨hs.1, Nat.le_trans hs.2.1 (by obtain ⟨row, hg, _⟩ := ht; exact hg.size), hs.2.2.turn ht (by simp; omega) hs.2.1⟩
  case hIx =>
    rintro c s W W' ⟨rfl, hs, pre0, x, rfl, h1, h2, h3⟩ ht
    exact ⟨rfl, Nat.le_trans hs (by obtain ⟨row, hg, _⟩ := ht; exact hg.size), pre0, x, rfl, h1, h2, h3.turn ht (by simp; omega) hs⟩
  case assign =>
    intro l x W K hK
    gi_wp2
    exact hK
  case body =>
    rintro l pre x W ⟨hcl, hsz, hh⟩ hpx
    obtain ⟨τ1, hr, hτ⟩ := hh.rep
    have c1 := hh.br.cell
    have c2 := hh.bt.cell
    have c3 := hh.bh.cell
    have z3 := hh.bh.frozen
    have r6 := hr.r6
    have r7 := hr.r7
    have hl1 : (Instr.lookup 51 (.map (some HB)) (.int .i64 x) false).run Yba.prog W = .ok (.bool (decide (x ∈ H))) W := by
      rw [← get_hv]
      exact hr.hm.look Yba.underlying51 Yba.underlying48 rfl x
    have hl2 : (Instr.lookup 52 (.map (some RB)) (.int .i64 x) false).run Yba.prog W = .ok (tsV x τ1) W := by
      rw [← tsV_get]
      exact hr.rm.look Yba.underlying52 Yba.underlying48 rfl x
    have hsx : (((w.alloc (.cells #[.pointer (some ⟨RD, 0, none⟩)] 39)).alloc (.cells #[.pointer (some ⟨T, 0, none⟩)] 60)).alloc (.cells #[.bool false] 4)).heap.size = w.heap.size + 1 + 1 + 1 := by simp
    rw [hsx]
    by_cases h8 : x = 8
    · subst h8
      gi_wp2
      exact ⟨(KeepsOthers.setCell _ _ _).from _, rfl, by simpa using hsz, pre, 8, rfl, hcl, .inl rfl, hh.hold hN hTl hFl⟩
    by_cases hxH : x ∈ H
    · rw [show decide (x ∈ H) = true by simp [hxH]] at hl1
      gi_wp2
      exact ⟨(KeepsOthers.setCell _ _ _).from _, rfl, by simpa using hsz, pre, x, rfl, hcl, .inr hxH, hh.hold hN hTl hFl⟩
    rw [show decide (x ∈ H) = false by simp [hxH]] at hl1
    have hcl2 : Clear H (pre ++ [x]) := by
      intro y hy
      rcases List.mem_append.1 hy with hy | hy
      · exact hcl y hy
      · rw [List.mem_singleton.1 hy]; exact ⟨h8, hxH⟩
    by_cases hgt : 8 < x
    · have hts := hr.rows.ts x
      have hlen : (tsL x τ1).length ≤ 1004100 := by
        have h1 := get_le_tot x (τ1.map rhoT)
        rw [← tsL_get, hτ] at h1
        have h2 := tot_noteAll me pre (τ.map rhoT)
        have h3 := hpx.length_le
        have h4 : (yields kd el ky fs).length ≤ 4098 := by
          unfold yields
          split
          · simp
          · split
            · simp
            · split
              · omega
              · simp
        simp at h3
        omega
      have t2 : W.cell? ⟨T, 2, none⟩ = some (.int .i64 me) := (World.cell?_of_block (a := ⟨T, 2, none⟩) hh.tt).trans hT.id
      have hRBl : RB < w.heap.size + 1 + 1 + 1 := by have := hR.rm.lt; omega
      obtain ⟨S9, hS9d⟩ : ∃ S9 : World → Prop, S9 = fun V => V.cell? ⟨w.heap.size, 0, none⟩ = some (.pointer (some ⟨RD, 0, none⟩)) ∧ V.cell? ⟨RD, 7, none⟩ = some (.map (some RB)) ∧ V.cell? ⟨w.heap.size + 1, 0, none⟩ = some (.pointer (some ⟨T, 0, none⟩)) ∧ V.cell? ⟨T, 2, none⟩ = some (.int .i64 me) := ⟨_, rfl⟩
      have hS9 : ∀ k : Nat, S9 ((W.drewN k).drew) := fun k => by rw [hS9d]; exact ⟨c1, r7, c2, t2⟩
      have hSg : ∀ (V : World) (row : Option Nat), W.grownBy V row → (∀ r, row = some r → r ≠ w.heap.size ∧ r ≠ RD ∧ r ≠ w.heap.size + 1 ∧ r ≠ T) → S9 V := fun V row hg hne => by
        rw [hS9d]
        have hq : ∀ b, b = w.heap.size ∨ b = RD ∨ b = w.heap.size + 1 ∨ b = T → row = none ∨ row ≠ some b := fun b hb => .inr (fun e => by have := hne b e; omega)
        exact ⟨cellG hg (hq _ (by simp)) c1, cellG hg (hq _ (by simp)) r7, cellG hg (hq _ (by simp)) c2, cellG hg (hq _ (by simp)) t2⟩
      have hSal : ∀ (k : Nat) (o : Obj), S9 (((W.drewN k).drew).alloc o) := fun k o => hSg _ none (grownBy.ofDrewN (World.grownBy_alloc ((W.drewN k).drew) o none)) (fun r e => by cases e)
      have hrowS : ∀ r, (tsV x τ1).ownBlock = some r → r ≠ w.heap.size ∧ r ≠ RD ∧ r ≠ w.heap.size + 1 ∧ r ≠ T := fun r e =>
        ⟨fun e' => (hh.br.plain (by decide) (by decide)).row hts (e' ▸ e), (hr.row_ne hts e).1, fun e' => (hh.bt.plain (by decide) (by decide)).row hts (e' ▸ e), fun e' => hh.pt.row hts (e' ▸ e)⟩
      have hSg2 : ∀ (V V2 : World), W.grownBy V (tsV x τ1).ownBlock → V.grownBy V2 (some RB) → S9 V2 := fun V V2 hg hg2 => by
        have h1 := hSg V _ hg hrowS
        rw [hS9d] at h1 ⊢
        obtain ⟨s1, s2, s3, s4⟩ := h1
        exact ⟨cellG hg2 (.inr (fun e => hr.rm.ne_cell c1 (Option.some.inj e).symm)) s1, cellG hg2 (.inr (fun e => hr.rm.ne_cell r7 (Option.some.inj e).symm)) s2, cellG hg2 (.inr (fun e => hr.rm.ne_cell c2 (Option.some.inj e).symm)) s3, cellG hg2 (.inr (fun e => hr.rm.ne_cell t2 (Option.some.inj e).symm)) s4⟩
      obtain ⟨i0, hi, hz0, hz1, hz2⟩ := info_parts Yba.info48
      rcases List.eq_nil_or_concat (tsL x τ1) with hn0 | ⟨L0, y, hLy⟩
      · obtain ⟨sa, sc, hsv⟩ := row_form hts
        rw [hn0] at hsv
        rw [hsv] at hl2
        have hlast : (tsL x τ1).getLast? ≠ some me := by rw [hn0]; simp
        have hvo : ∀ k : Nat, ((W.drewN k).drew).ownsRow N0 48 1 (.slice sa 0 sc) 0 [] := fun k => by
          rw [hn0, hsv] at hts
          exact hts
        simp only [List.length_nil] at hl2
        gi_wp2
        refine wpIn_round_quiet (by kernel_rfl) (by kernel_rfl) (fun ⟨_, _, h⟩ => h) (by kernel_rfl) ?_
        repeat (go_big_quiet_step (fail))
        refine wpQuiet_nil ?_
        intro _ hw'
        obtain ⟨nq, hw''⟩ := hw'
        subst hw''
        gi_wp2
        refine wpIn_round_held (S := S9) (by kernel_rfl) (by kernel_rfl) (fun ⟨_, _, h⟩ => h) ?_
        refine wpAnyH_take (i := 0) (oi := { dst := some 46, op := .load 39 (.tmp 2), type := 39, pos := "reader.go:286", after := #[], guard := none }) (v := .pointer (some ⟨RD, 0, none⟩)) rfl (by kernel_rfl) (by kernel_rfl) (by kernel_rfl) (fun _ _ _ h => h) (.inl ⟨rfl, fun w' hS' => ?_⟩) (hS9 _) ?_
        · rw [hS9d] at hS'; obtain ⟨s1, s2, s3, s4⟩ := hS'; go_simp
        simp only [Act.put, List.setIfInBounds_toArray, List.set_cons_zero, List.set_cons_succ]
        refine wpAnyH_take (i := 1) (oi := { dst := some 47, op := .nilCheck (.tmp 46), type := 0, pos := "reader.go:286", after := #[{ on := 0, ground := .data }], guard := none }) (v := .pointer (some ⟨RD, 0, none⟩)) rfl (by kernel_rfl) (by kernel_rfl) (by kernel_rfl) (fun _ _ _ h => h) (.inl ⟨rfl, fun w' hS' => ?_⟩) (hS9 _) ?_
        · rw [hS9d] at hS'; obtain ⟨s1, s2, s3, s4⟩ := hS'; go_simp
        simp only [Act.put, List.setIfInBounds_toArray, List.set_cons_zero, List.set_cons_succ]
        refine wpAnyH_take (i := 2) (oi := { dst := some 48, op := .fieldAddr 72 (.tmp 47) 7, type := 0, pos := "reader.go:286", after := #[{ on := 1, ground := .data }], guard := none }) (v := .pointer (some ⟨RD, 7, none⟩)) rfl (by kernel_rfl) (by kernel_rfl) (by kernel_rfl) (fun _ _ _ h => h) (.inl ⟨rfl, fun w' hS' => ?_⟩) (hS9 _) ?_
        · rw [hS9d] at hS'; obtain ⟨s1, s2, s3, s4⟩ := hS'; go_simp
        simp only [Act.put, List.setIfInBounds_toArray, List.set_cons_zero, List.set_cons_succ]
        refine wpAnyH_take (i := 3) (oi := { dst := some 49, op := .load 52 (.tmp 48), type := 52, pos := "reader.go:286", after := #[{ on := 2, ground := .data }], guard := none }) (v := .map (some RB)) rfl (by kernel_rfl) (by kernel_rfl) (by kernel_rfl) (fun _ _ _ h => h) (.inl ⟨rfl, fun w' hS' => ?_⟩) (hS9 _) ?_
        · rw [hS9d] at hS'; obtain ⟨s1, s2, s3, s4⟩ := hS'; go_simp
        simp only [Act.put, List.setIfInBounds_toArray, List.set_cons_zero, List.set_cons_succ]
        refine wpAnyH_take (i := 4) (oi := { dst := some 50, op := .move (.tmp 5), type := 48, pos := "reader.go:286", after := #[], guard := none }) (v := .int .i64 x) rfl (by kernel_rfl) (by kernel_rfl) (by kernel_rfl) (fun _ _ _ h => h) (.inl ⟨rfl, fun w' hS' => ?_⟩) (hS9 _) ?_
        · rw [hS9d] at hS'; obtain ⟨s1, s2, s3, s4⟩ := hS'; go_simp
        simp only [Act.put, List.setIfInBounds_toArray, List.set_cons_zero, List.set_cons_succ]
        refine wpAnyH_take (i := 5) (oi := { dst := some 51, op := .move (.tmp 6), type := 42, pos := "reader.go:286", after := #[], guard := none }) (v := (.slice sa 0 sc)) rfl (by kernel_rfl) (by kernel_rfl) (by kernel_rfl) (fun _ _ _ h => h) (.inl ⟨rfl, fun w' hS' => ?_⟩) (hS9 _) ?_
        · rw [hS9d] at hS'; obtain ⟨s1, s2, s3, s4⟩ := hS'; go_simp
        simp only [Act.put, List.setIfInBounds_toArray, List.set_cons_zero, List.set_cons_succ]
        refine wpAnyH_take (i := 6) (oi := { dst := some 52, op := .load 60 (.tmp 3), type := 60, pos := "reader.go:286", after := #[], guard := none }) (v := .pointer (some ⟨T, 0, none⟩)) rfl (by kernel_rfl) (by kernel_rfl) (by kernel_rfl) (fun _ _ _ h => h) (.inl ⟨rfl, fun w' hS' => ?_⟩) (hS9 _) ?_
        · rw [hS9d] at hS'; obtain ⟨s1, s2, s3, s4⟩ := hS'; go_simp
        simp only [Act.put, List.setIfInBounds_toArray, List.set_cons_zero, List.set_cons_succ]
        refine wpAnyH_take (i := 7) (oi := { dst := some 53, op := .nilCheck (.tmp 52), type := 0, pos := "reader.go:286", after := #[{ on := 6, ground := .data }], guard := none }) (v := .pointer (some ⟨T, 0, none⟩)) rfl (by kernel_rfl) (by kernel_rfl) (by kernel_rfl) (fun _ _ _ h => h) (.inl ⟨rfl, fun w' hS' => ?_⟩) (hS9 _) ?_
        · rw [hS9d] at hS'; obtain ⟨s1, s2, s3, s4⟩ := hS'; go_simp
        simp only [Act.put, List.setIfInBounds_toArray, List.set_cons_zero, List.set_cons_succ]
        refine wpAnyH_take (i := 8) (oi := { dst := some 54, op := .fieldAddr 82 (.tmp 53) 2, type := 0, pos := "reader.go:286", after := #[{ on := 7, ground := .data }], guard := none }) (v := .pointer (some ⟨T, 2, none⟩)) rfl (by kernel_rfl) (by kernel_rfl) (by kernel_rfl) (fun _ _ _ h => h) (.inl ⟨rfl, fun w' hS' => ?_⟩) (hS9 _) ?_
        · rw [hS9d] at hS'; obtain ⟨s1, s2, s3, s4⟩ := hS'; go_simp
        simp only [Act.put, List.setIfInBounds_toArray, List.set_cons_zero, List.set_cons_succ]
        refine wpAnyH_take (i := 9) (oi := { dst := some 55, op := .load 48 (.tmp 54), type := 48, pos := "reader.go:286", after := #[{ on := 8, ground := .data }], guard := none }) (v := .int .i64 me) rfl (by kernel_rfl) (by kernel_rfl) (by kernel_rfl) (fun _ _ _ h => h) (.inl ⟨rfl, fun w' hS' => ?_⟩) (hS9 _) ?_
        · rw [hS9d] at hS'; obtain ⟨s1, s2, s3, s4⟩ := hS'; go_simp
        simp only [Act.put, List.setIfInBounds_toArray, List.set_cons_zero, List.set_cons_succ]
        refine wpAnyH_ready (rs := [10]) (by kernel_rfl) (by simp) ?_
        refine AllReadyH.cons (o := { dst := some 56, op := .buildSlice 42 1 #[(0, .tmp 55)], type := 42, pos := "reader.go:286", after := #[{ on := 9, ground := .data }], guard := none }) rfl (fun K hK => ?_) AllReadyH.nil
        go_simp
        refine hK.out _ _ (hSal _ _) (fun _ => ?_)
        clear hK K
        refine wpAnyH_ready (rs := [11]) (by kernel_rfl) (by simp) ?_
        refine AllReadyH.cons (o := { dst := some 57, op := .call { callee := .builtin .append, args := #[.tmp 51, .tmp 56], argTypes := #[42, 42] }, type := 42, pos := "reader.go:286", after := #[{ on := 5, ground := .data }, { on := 10, ground := .data }], guard := none }) rfl (fun K hK => ?_) AllReadyH.nil
        refine step_append_lies _ rfl _ _ 42 rfl N0 48 i0 _ 1 8 Yba.underlying42 hi hz0 hz1 hz2 rfl (by omega) _ 0 _ rfl ((hvo nq).alloc _) ⟨W.heap.size, 0, none⟩ 1 1 [.int .i64 me] rfl rfl (news1 _ _ _) (by simp [Value.oneCell']) (by omega) (by unfold maxLen; omega) (by omega) (by simp; omega) (W.heap.size + 1) (by simp) ?_
        intro g cap w1 hown hgrow hat hlt
        have hgW : W.grownBy w1 (tsV x τ1).ownBlock := by rw [hsv]; exact grownBy.trans (grownBy.ofDrewN (World.grownBy_alloc ((W.drewN nq).drew) _ _)) hgrow
        refine hK.out _ _ (hSg _ _ hgW hrowS) (fun _ => ?_)
        simp only [Act.put, List.setIfInBounds_toArray, List.set_cons_zero, List.set_cons_succ]
        clear hK K
        obtain ⟨w2, hmu, hm2, hg2, hs2⟩ := (hr.rm.grown hgW (fun e => (hr.row_ne hts e).2.2 rfl)).upd Yba.underlying52 Yba.underlying48 x (.slice (some ⟨g, 0, none⟩) (0 + 1) cap)
        refine wpAnyH_ready (rs := [12]) (by kernel_rfl) (by simp) ?_
        refine AllReadyH.cons (o := { dst := none, op := .mapUpdate 52 (.tmp 49) (.tmp 50) (.tmp 57), type := 0, pos := "reader.go:286", after := #[{ on := 3, ground := .data }, { on := 4, ground := .data }, { on := 11, ground := .data }, { on := 11, ground := .chain }, { on := 0, ground := .phase }, { on := 1, ground := .phase }, { on := 2, ground := .phase }, { on := 3, ground := .phase }, { on := 4, ground := .phase }, { on := 5, ground := .phase }, { on := 6, ground := .phase }, { on := 7, ground := .phase }, { on := 8, ground := .phase }, { on := 9, ground := .phase }, { on := 10, ground := .phase }, { on := 11, ground := .phase }], guard := none }) rfl (fun K hK => ?_) AllReadyH.nil
        go_simp
        refine hK.out _ _ (hSg2 _ _ hgW hg2) (fun _ => ?_)
        clear hK K
        refine wpAnyH_done (by kernel_rfl) ?_ _
        gi_wp2
        exact hh.noted hr hτ hgt hlast hgW hown (by rw [hn0]; rfl) (by rw [hn0]; rfl) (by rw [hsv]; exact hat.imp (fun h => h.symm) (fun h => ⟨g, rfl, by omega⟩)) hm2 hg2 hsz hRBl hcl2
      · rw [List.concat_eq_append] at hLy
        have hLl : (tsL x τ1).length = L0.length + 1 := by rw [hLy]; simp
        obtain ⟨g0, sc, hsv, _, _⟩ := hts.form (by omega)
        rw [hLl] at hsv
        rw [hsv] at hl2
        have hvo : ∀ k : Nat, ((W.drewN k).drew).ownsRow N0 48 1 (.slice (some ⟨g0, 0, none⟩) (L0.length + 1) sc) (L0.length + 1) (ints (tsL x τ1)) := fun k => by
          rw [hLl, hsv] at hts
          exact hts
        have hcy : W.cell? ⟨g0, L0.length, none⟩ = some (.int .i64 y) := by
          have := (hvo 0).cellAt L0.length (by omega)
          rw [hLy] at this
          refine (show W.cell? ⟨g0, L0.length, none⟩ = ((W.drewN 0).drew).cell? ⟨g0, L0.length, none⟩ from rfl).trans (this.trans ?_)
          simp [ints]
        obtain ⟨m, Hm⟩ : ∃ m, Hid (L0.length = m) := ⟨_, (rfl : L0.length = L0.length)⟩
        have hd0 : ((m : Int) + 1 == 0) = false := by simp; omega
        by_cases hym : y = me
        · have hlast : (tsL x τ1).getLast? = some me := by rw [hLy, hym]; simp
          rw [hym] at hcy
          rw [Hm.out] at hl2 hcy hLl
          have hml : (m : Int) ≤ 1004100 := by omega
          clear hvo hsv hLy hLl
          gi_wp2
          refine wpIn_round_quiet (by kernel_rfl) (by kernel_rfl) (fun ⟨_, _, h⟩ => h) (by kernel_rfl) ?_
          repeat (go_big_quiet_step (fail))
          refine wpQuiet_nil ?_
          intro _ hw'
          obtain ⟨nq, hw''⟩ := hw'
          subst hw''
          gi_wp2
          exact ⟨⟨Nat.le_refl _, fun _ _ _ h _ => h⟩, hcl2, hsz, (hh.same hr hτ hlast).drewN _⟩
        · have hlast : (tsL x τ1).getLast? ≠ some me := by rw [hLy]; simpa using hym
          rw [Hm.out] at hl2 hcy hLl
          have hml : (m : Int) ≤ 1004100 := by omega
          have hml' : m ≤ 1004100 := by omega
          have HLl : Hid ((tsL x τ1).length = m + 1) := hLl
          rw [Hm.out] at hvo hsv
          clear hLy hLl
          gi_wp2
          refine wpIn_round_quiet (by kernel_rfl) (by kernel_rfl) (fun ⟨_, _, h⟩ => h) (by kernel_rfl) ?_
          repeat (go_big_quiet_step (fail))
          refine wpQuiet_nil ?_
          intro _ hw'
          obtain ⟨nq, hw''⟩ := hw'
          subst hw''
          gi_wp2
          refine wpIn_round_held (S := S9) (by kernel_rfl) (by kernel_rfl) (fun ⟨_, _, h⟩ => h) ?_
          refine wpAnyH_take (i := 0) (oi := { dst := some 46, op := .load 39 (.tmp 2), type := 39, pos := "reader.go:286", after := #[], guard := none }) (v := .pointer (some ⟨RD, 0, none⟩)) rfl (by kernel_rfl) (by kernel_rfl) (by kernel_rfl) (fun _ _ _ h => h) (.inl ⟨rfl, fun w' hS' => ?_⟩) (hS9 _) ?_
          · rw [hS9d] at hS'; obtain ⟨s1, s2, s3, s4⟩ := hS'; go_simp
          simp only [Act.put, List.setIfInBounds_toArray, List.set_cons_zero, List.set_cons_succ]
          refine wpAnyH_take (i := 1) (oi := { dst := some 47, op := .nilCheck (.tmp 46), type := 0, pos := "reader.go:286", after := #[{ on := 0, ground := .data }], guard := none }) (v := .pointer (some ⟨RD, 0, none⟩)) rfl (by kernel_rfl) (by kernel_rfl) (by kernel_rfl) (fun _ _ _ h => h) (.inl ⟨rfl, fun w' hS' => ?_⟩) (hS9 _) ?_
          · rw [hS9d] at hS'; obtain ⟨s1, s2, s3, s4⟩ := hS'; go_simp
          simp only [Act.put, List.setIfInBounds_toArray, List.set_cons_zero, List.set_cons_succ]
          refine wpAnyH_take (i := 2) (oi := { dst := some 48, op := .fieldAddr 72 (.tmp 47) 7, type := 0, pos := "reader.go:286", after := #[{ on := 1, ground := .data }], guard := none }) (v := .pointer (some ⟨RD, 7, none⟩)) rfl (by kernel_rfl) (by kernel_rfl) (by kernel_rfl) (fun _ _ _ h => h) (.inl ⟨rfl, fun w' hS' => ?_⟩) (hS9 _) ?_
          · rw [hS9d] at hS'; obtain ⟨s1, s2, s3, s4⟩ := hS'; go_simp
          simp only [Act.put, List.setIfInBounds_toArray, List.set_cons_zero, List.set_cons_succ]
          refine wpAnyH_take (i := 3) (oi := { dst := some 49, op := .load 52 (.tmp 48), type := 52, pos := "reader.go:286", after := #[{ on := 2, ground := .data }], guard := none }) (v := .map (some RB)) rfl (by kernel_rfl) (by kernel_rfl) (by kernel_rfl) (fun _ _ _ h => h) (.inl ⟨rfl, fun w' hS' => ?_⟩) (hS9 _) ?_
          · rw [hS9d] at hS'; obtain ⟨s1, s2, s3, s4⟩ := hS'; go_simp
          simp only [Act.put, List.setIfInBounds_toArray, List.set_cons_zero, List.set_cons_succ]
          refine wpAnyH_take (i := 4) (oi := { dst := some 50, op := .move (.tmp 5), type := 48, pos := "reader.go:286", after := #[], guard := none }) (v := .int .i64 x) rfl (by kernel_rfl) (by kernel_rfl) (by kernel_rfl) (fun _ _ _ h => h) (.inl ⟨rfl, fun w' hS' => ?_⟩) (hS9 _) ?_
          · rw [hS9d] at hS'; obtain ⟨s1, s2, s3, s4⟩ := hS'; go_simp
          simp only [Act.put, List.setIfInBounds_toArray, List.set_cons_zero, List.set_cons_succ]
          refine wpAnyH_take (i := 5) (oi := { dst := some 51, op := .move (.tmp 6), type := 42, pos := "reader.go:286", after := #[], guard := none }) (v := (.slice (some ⟨g0, 0, none⟩) (m + 1) sc)) rfl (by kernel_rfl) (by kernel_rfl) (by kernel_rfl) (fun _ _ _ h => h) (.inl ⟨rfl, fun w' hS' => ?_⟩) (hS9 _) ?_
          · rw [hS9d] at hS'; obtain ⟨s1, s2, s3, s4⟩ := hS'; go_simp
          simp only [Act.put, List.setIfInBounds_toArray, List.set_cons_zero, List.set_cons_succ]
          refine wpAnyH_take (i := 6) (oi := { dst := some 52, op := .load 60 (.tmp 3), type := 60, pos := "reader.go:286", after := #[], guard := none }) (v := .pointer (some ⟨T, 0, none⟩)) rfl (by kernel_rfl) (by kernel_rfl) (by kernel_rfl) (fun _ _ _ h => h) (.inl ⟨rfl, fun w' hS' => ?_⟩) (hS9 _) ?_
          · rw [hS9d] at hS'; obtain ⟨s1, s2, s3, s4⟩ := hS'; go_simp
          simp only [Act.put, List.setIfInBounds_toArray, List.set_cons_zero, List.set_cons_succ]
          refine wpAnyH_take (i := 7) (oi := { dst := some 53, op := .nilCheck (.tmp 52), type := 0, pos := "reader.go:286", after := #[{ on := 6, ground := .data }], guard := none }) (v := .pointer (some ⟨T, 0, none⟩)) rfl (by kernel_rfl) (by kernel_rfl) (by kernel_rfl) (fun _ _ _ h => h) (.inl ⟨rfl, fun w' hS' => ?_⟩) (hS9 _) ?_
          · rw [hS9d] at hS'; obtain ⟨s1, s2, s3, s4⟩ := hS'; go_simp
          simp only [Act.put, List.setIfInBounds_toArray, List.set_cons_zero, List.set_cons_succ]
          refine wpAnyH_take (i := 8) (oi := { dst := some 54, op := .fieldAddr 82 (.tmp 53) 2, type := 0, pos := "reader.go:286", after := #[{ on := 7, ground := .data }], guard := none }) (v := .pointer (some ⟨T, 2, none⟩)) rfl (by kernel_rfl) (by kernel_rfl) (by kernel_rfl) (fun _ _ _ h => h) (.inl ⟨rfl, fun w' hS' => ?_⟩) (hS9 _) ?_
          · rw [hS9d] at hS'; obtain ⟨s1, s2, s3, s4⟩ := hS'; go_simp
          simp only [Act.put, List.setIfInBounds_toArray, List.set_cons_zero, List.set_cons_succ]
          refine wpAnyH_take (i := 9) (oi := { dst := some 55, op := .load 48 (.tmp 54), type := 48, pos := "reader.go:286", after := #[{ on := 8, ground := .data }], guard := none }) (v := .int .i64 me) rfl (by kernel_rfl) (by kernel_rfl) (by kernel_rfl) (fun _ _ _ h => h) (.inl ⟨rfl, fun w' hS' => ?_⟩) (hS9 _) ?_
          · rw [hS9d] at hS'; obtain ⟨s1, s2, s3, s4⟩ := hS'; go_simp
          simp only [Act.put, List.setIfInBounds_toArray, List.set_cons_zero, List.set_cons_succ]
          refine wpAnyH_ready (rs := [10]) (by kernel_rfl) (by simp) ?_
          refine AllReadyH.cons (o := { dst := some 56, op := .buildSlice 42 1 #[(0, .tmp 55)], type := 42, pos := "reader.go:286", after := #[{ on := 9, ground := .data }], guard := none }) rfl (fun K hK => ?_) AllReadyH.nil
          go_simp
          refine hK.out _ _ (hSal _ _) (fun _ => ?_)
          clear hK K
          refine wpAnyH_ready (rs := [11]) (by kernel_rfl) (by simp) ?_
          refine AllReadyH.cons (o := { dst := some 57, op := .call { callee := .builtin .append, args := #[.tmp 51, .tmp 56], argTypes := #[42, 42] }, type := 42, pos := "reader.go:286", after := #[{ on := 5, ground := .data }, { on := 10, ground := .data }], guard := none }) rfl (fun K hK => ?_) AllReadyH.nil
          refine step_append_lies _ rfl _ _ 42 rfl N0 48 i0 _ 1 8 Yba.underlying42 hi hz0 hz1 hz2 rfl (by omega) _ (m + 1) _ rfl ((hvo nq).alloc _) ⟨W.heap.size, 0, none⟩ 1 1 [.int .i64 me] rfl rfl (news1 _ _ _) (by simp [Value.oneCell']) (by omega) (by unfold maxLen; omega) (by omega) (by simp; omega) (W.heap.size + 1) (by simp) ?_
          intro g cap w1 hown hgrow hat hlt
          have hgW : W.grownBy w1 (tsV x τ1).ownBlock := by rw [hsv]; exact grownBy.trans (grownBy.ofDrewN (World.grownBy_alloc ((W.drewN nq).drew) _ _)) hgrow
          refine hK.out _ _ (hSg _ _ hgW hrowS) (fun _ => ?_)
          simp only [Act.put, List.setIfInBounds_toArray, List.set_cons_zero, List.set_cons_succ]
          clear hK K
          obtain ⟨w2, hmu, hm2, hg2, hs2⟩ := (hr.rm.grown hgW (fun e => (hr.row_ne hts e).2.2 rfl)).upd Yba.underlying52 Yba.underlying48 x (.slice (some ⟨g, 0, none⟩) ((m + 1) + 1) cap)
          refine wpAnyH_ready (rs := [12]) (by kernel_rfl) (by simp) ?_
          refine AllReadyH.cons (o := { dst := none, op := .mapUpdate 52 (.tmp 49) (.tmp 50) (.tmp 57), type := 0, pos := "reader.go:286", after := #[{ on := 3, ground := .data }, { on := 4, ground := .data }, { on := 11, ground := .data }, { on := 11, ground := .chain }, { on := 0, ground := .phase }, { on := 1, ground := .phase }, { on := 2, ground := .phase }, { on := 3, ground := .phase }, { on := 4, ground := .phase }, { on := 5, ground := .phase }, { on := 6, ground := .phase }, { on := 7, ground := .phase }, { on := 8, ground := .phase }, { on := 9, ground := .phase }, { on := 10, ground := .phase }, { on := 11, ground := .phase }], guard := none }) rfl (fun K hK => ?_) AllReadyH.nil
          go_simp
          refine hK.out _ _ (hSg2 _ _ hgW hg2) (fun _ => ?_)
          clear hK K
          refine wpAnyH_done (by kernel_rfl) ?_ _
          gi_wp2
          exact hh.noted hr hτ hgt hlast hgW hown (by simp [HLl.out]) (by rw [ints_append]; rfl) (by rw [hsv]; exact hat.imp (fun h => h.symm) (fun h => ⟨g, rfl, by omega⟩)) hm2 hg2 hsz hRBl hcl2
    · gi_wp2
      refine ⟨KeepsFrom.refl _ _, hcl2, hsz, ?_⟩
      exact hh.skip (by omega)
  case done =>
    rintro D W hD ⟨hcl, hsz, hh⟩ hK
    have c1 := hh.br.cell
    have c2 := hh.bt.cell
    have c3 := hh.bh.cell
    gi_wp2
    refine ⟨by simp, .inl ⟨_, _, rfl, run_takeDeferred hK, ?_⟩⟩
    have htu : Turn N0 W (W.putObj D (.deferred none)) := ⟨some D, grownBy_putObj' W D _, fun r e => by cases e; exact ⟨by simp at hD; omega, _, hK, .inr ⟨_, rfl⟩⟩⟩
    obtain ⟨τ2, hr2, hτ2⟩ := (hh.turn htu (Nat.le_refl _) hsz).rep
    exact ⟨_, results_none rfl _ _ _, rfl, H, τ2, hr2, .inl ⟨hcl, rfl, hτ2⟩, (hh.turn htu (Nat.le_refl _) hsz).below⟩
  case stop =>
    rintro D c pre W hD hpre ⟨rfl, hsz, pre0, x, rfl, hcl, hx, hh⟩ hK
    have c1 := hh.br.cell
    have c2 := hh.bt.cell
    have c3 := hh.bh.cell
    obtain ⟨τ1, hr, hτ⟩ := hh.rep
    have t2 : W.cell? ⟨T, 2, none⟩ = some (.int .i64 me) := (World.cell?_of_block (a := ⟨T, 2, none⟩) hh.tt).trans hT.id
    have htot : tot (τ1.map rhoT) ≤ 1004100 := by
      rw [hτ]
      have h2 := tot_noteAll me pre0 (τ.map rhoT)
      have h3 := hpre.length_le
      have h4 : (yields kd el ky fs).length ≤ 4098 := by
        unfold yields
        split
        · simp
        · split
          · simp
          · split
            · omega
            · simp
      simp at h3
      omega
    have hw0 : Work w (W.alloc (.cells #[.int .i64 me] 48)) N0 RD HB RB w.heap.size D me H (τ1.map rhoT) (1 + tot (τ1.map rhoT)) (.slice (some ⟨W.heap.size, 0, none⟩) 1 1) [me] H τ1 :=
      ⟨⟨0, rfl⟩, hr.alloc _, World.ownsRow_lit W #[.int .i64 me] 1 hsz (by unfold maxLen; omega) rfl, fun t ht b hb e => (by
          simp [Value.ownBlock] at hb
          have := ((hr.rows.own t ht).lt _ e).2
          omega), Nat.le_refl _, by omega, hh.br.kept (Below.heap_alloc _ _ _ hh.br.lt), (Below.heap_alloc _ _ _ (Array.getElem?_eq_some_iff.1 hK).1).trans hK, hh.below.alloc hsz _, by simp; omega⟩
    gi_wp2
    gi_loopg [7] (1 + tot (τ1.map rhoT)) (fun k s7 wr => ∃ ids H' τ', Work w wr N0 RD HB RB w.heap.size D me H (τ1.map rhoT) k s7 ids H' τ')
    case atStart => exact ⟨_, _, _, hw0⟩
    case round =>
      clear hw0 hK hr c1 c2 c3 t2
      obtain ⟨ids, H', τ', hW⟩ := hrel
      have c1 := hW.br.cell
      have r6 := hW.rep.r6
      rcases List.eq_nil_or_concat ids with hn0 | ⟨L0, y, hLy⟩
      · subst hn0
        obtain ⟨sa, sc, hsv⟩ := row_form hW.own
        simp only [List.length_nil] at hsv
        subst hsv
        gi_wp2
        refine ⟨by simp, .inl ⟨_, _, rfl, run_takeDeferred hW.dd, ?_⟩⟩
        have htu : Turn N0 wr (wr.putObj D (.deferred none)) := ⟨some D, grownBy_putObj' wr D _, fun r e => by cases e; exact ⟨by simp at hD; omega, _, hW.dd, .inr ⟨_, rfl⟩⟩⟩
        obtain ⟨j, hj⟩ := hW.dr
        refine ⟨_, results_none rfl _ _ _, rfl, H', τ', hW.rep.turn htu, .inr ⟨pre0, x, hpre, hcl, hx, j, ?_⟩, ?_⟩
        · rw [← hτ]; exact hj
        · obtain ⟨row, hg, hrow⟩ := htu
          exact hW.below.grown hg hW.sz (fun k e => (hrow k e).1)
      · rw [List.concat_eq_append] at hLy
        subst hLy
        obtain ⟨g0, sc, hsv, _, _⟩ := hW.own.form (by simp)
        obtain ⟨m, Hm⟩ : ∃ m, Hid (L0.length = m) := ⟨_, (rfl : L0.length = L0.length)⟩
        rw [List.length_append, Hm.out] at hsv
        simp only [List.length_cons, List.length_nil, Nat.zero_add] at hsv
        subst hsv
        have hl1 : (Instr.lookup 51 (.map (some HB)) (.int .i64 y) false).run Yba.prog wr = .ok (.bool (decide (y ∈ H'))) wr := by
          rw [← get_hv]
          exact hW.rep.hm.look Yba.underlying51 Yba.underlying48 rfl y
        have hcy : wr.cell? ⟨g0, m, none⟩ = some (.int .i64 y) := by
          have ho := hW.own
          rw [List.length_append, Hm.out] at ho
          have := ho.cellAt m (by simp)
          rw [this, ints_append, List.getElem?_append_right (by simp [ints, Hm.out])]
          simp [ints, Hm.out]
        have hml : m ≤ 2000000 := by
          have h1 := hW.le
          have h2 := hW.hi
          rw [List.length_append, Hm.out] at h1
          omega
        have hml' : (m : Int) ≤ 2000000 := by omega
        have hmc : (m : Int) ≤ (sc : Int) := by
          rcases hW.own.2 with ⟨e', _⟩ | ⟨g, cap, cur, e', _, _, hnc, _⟩
          · cases e'
          · simp only [Value.slice.injEq] at e'
            have := e'.2.2
            rw [List.length_append, Hm.out] at hnc
            simp at hnc
            omega
        have hmc' : m ≤ sc := by omega
        have hgk : 1 ≤ gk := by have h1 := hW.le; rw [List.length_append] at h1; simp at h1; omega
        by_cases hyH : y ∈ H'
        · rw [show decide (y ∈ H') = true by simp [hyH]] at hl1
          have hW' := hW.pop Hm.out hyH
          clear hW
          gi_wp2
          gi_roundg (gk - 1)
          case rel => exact ⟨_, _, _, hW'⟩
          case measure => omega
        · rw [show decide (y ∈ H') = false by simp [hyH]] at hl1
          obtain ⟨w1, w2, w3, v', hmu, hl2, hap, hdl, d1, d2, d3, d4, ids', hW'⟩ := hW.push Hm.out hyH
          clear hW
          gi_wp2_with (gi_at_builtin; refine wpListIn_app_run rfl _ _ 42 rfl hap ?_)
          gi_roundg (gk - 1)
          case rel => exact ⟨_, _, _, hW'⟩
          case measure => omega
end Go.Proofs.Ybulkazqi
