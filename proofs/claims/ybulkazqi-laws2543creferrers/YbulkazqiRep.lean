/-
  How the Reader's two maps lie in memory: 'RepT'. And the plain functions that noteHolder computes. No program text.
-/
import Derived.Test.YbulkazqiMaps
import Derived.Test.YbulkazqiRange
namespace Go.Bs
open Go.RowKit

section
variable {α β : Type}
theorem get_map (f : α → β) (k : Int) (l : List (Int × α)) : get k (l.map (fun p => (p.1, f p.2))) = (get k l).map f := by
  induction l with
  | nil => rfl
  | cons p l ih => simp only [List.map_cons, get]; split <;> simp [ih]
theorem put_map (f : α → β) (k : Int) (v : α) (l : List (Int × α)) : (put k v l).map (fun p => (p.1, f p.2)) = put k (f v) (l.map (fun p => (p.1, f p.2))) := by
  induction l with
  | nil => rfl
  | cons p l ih => simp only [List.map_cons, put]; split <;> simp [ih]
theorem del_map (f : α → β) (k : Int) (l : List (Int × α)) : (del k l).map (fun p => (p.1, f p.2)) = del k (l.map (fun p => (p.1, f p.2))) := by
  induction l with
  | nil => rfl
  | cons p l ih => simp only [List.map_cons, del]; split <;> simp [ih]
theorem mem_del {k : Int} {l : List (Int × α)} {t : Int × α} (h : t ∈ del k l) : t ∈ l := by
  induction l with
  | nil => exact h
  | cons p l ih =>
    unfold del at h
    split at h
    · exact List.mem_cons_of_mem _ h
    · rcases List.mem_cons.1 h with rfl | h
      · exact List.mem_cons_self
      · exact List.mem_cons_of_mem _ (ih h)
theorem mem_put {k : Int} {v : α} {l : List (Int × α)} {t : Int × α} (h : t ∈ put k v l) : t = (k, v) ∨ t ∈ del k l := by
  induction l with
  | nil => left; simpa [put] using h
  | cons p l ih =>
    unfold put at h
    unfold del
    split at h
    · rename_i hp
      rw [if_pos hp]
      simpa using h
    · rename_i hp
      rw [if_neg hp]
      rcases List.mem_cons.1 h with rfl | h
      · exact .inr List.mem_cons_self
      · exact (ih h).imp id (List.mem_cons_of_mem _)
theorem mem_of_get {k : Int} {v : α} {l : List (Int × α)} (h : get k l = some v) : (k, v) ∈ l := by
  induction l with
  | nil => cases h
  | cons p l ih =>
    unfold get at h
    split at h
    · rename_i hp
      cases h
      subst hp
      exact List.mem_cons_self
    · exact List.mem_cons_of_mem _ (ih h)
theorem pairwise_del {R : Int × α → Int × α → Prop} {k : Int} {l : List (Int × α)} (h : l.Pairwise R) : (del k l).Pairwise R := by
  induction l with
  | nil => exact h
  | cons p l ih =>
    rw [List.pairwise_cons] at h
    unfold del
    split
    · exact h.2
    · exact List.pairwise_cons.2 ⟨fun t ht => h.1 t (mem_del ht), ih h.2⟩
theorem pairwise_put {R : Int × α → Int × α → Prop} {k : Int} {v : α} {l : List (Int × α)} (h : (del k l).Pairwise R) (hv : ∀ t ∈ del k l, R (k, v) t ∧ R t (k, v)) : (put k v l).Pairwise R := by
  induction l with
  | nil => simp [put]
  | cons p l ih =>
    unfold del at h hv
    unfold put
    split at h
    · rename_i hp
      simp only [hp, if_true] at hv ⊢
      exact List.pairwise_cons.2 ⟨fun t ht => (hv t ht).1, h⟩
    · rename_i hp
      simp only [hp, if_false] at hv ⊢
      rw [List.pairwise_cons] at h
      refine List.pairwise_cons.2 ⟨fun t ht => ?_, ih h.2 (fun t ht => hv t (List.mem_cons_of_mem _ ht))⟩
      rcases mem_put ht with rfl | ht
      · exact (hv p List.mem_cons_self).2
      · exact h.1 t ht
theorem get_apart {R : Int × α → Int × α → Prop} (hs : ∀ s t, R s t → R t s) {k : Int} {u : α} {l : List (Int × α)} (h : l.Pairwise R) (hg : get k l = some u) : ∀ t ∈ del k l, R (k, u) t := by
  induction l with
  | nil => cases hg
  | cons p l ih =>
    rw [List.pairwise_cons] at h
    intro t ht
    unfold get at hg
    unfold del at ht
    split at hg
    · rename_i hp
      rw [if_pos hp] at ht
      cases hg
      subst hp
      exact h.1 t ht
    · rename_i hp
      rw [if_neg hp] at ht
      rcases List.mem_cons.1 ht with rfl | ht
      · exact hs _ _ (h.1 _ (mem_of_get hg))
      · exact ih h.2 hg t ht
end

def ints (L : List Int) : List Value := L.map (Value.int .i64)
theorem ints_append (a b : List Int) : ints (a ++ b) = ints a ++ ints b := by simp [ints]
theorem ints_length (L : List Int) : (ints L).length = L.length := by simp [ints]
theorem ints_one (L : List Int) : ∀ u ∈ ints L, u.oneCell' = true := ints_oneCell _ _

def hv (h : Int) : Int × Value := (h, .bool true)
theorem get_hv (H : List Int) (k : Int) : (get k (H.map hv)).getD (.bool false) = .bool (decide (k ∈ H)) := by
  induction H with
  | nil => simp [get]
  | cons h H ih =>
    simp only [List.map_cons, hv, get]
    split
    · rename_i hp; simp [hp]
    · rename_i hp
      have hp' : k ≠ h := fun e => hp e.symm
      rw [ih]
      simp [hp']
theorem put_hv (H : List Int) (k : Int) (hk : k ∉ H) : put k (.bool true) (H.map hv) = (H ++ [k]).map hv := by
  induction H with
  | nil => simp [put, hv]
  | cons h H ih =>
    simp only [List.mem_cons, not_or] at hk
    simp only [List.map_cons, List.cons_append, put]
    rw [if_neg (fun e => hk.1 e.symm), ih hk.2]

/-- One entry of referrers: the key, the slice's value, the ids that it holds. -/
abbrev Ent := Int × Value × List Int
def kvT (t : Ent) : Int × Value := (t.1, t.2.1)
def rhoT (t : Ent) : Int × List Int := (t.1, t.2.2)
def Apart (u v : Value) : Prop := ∀ b, u.ownBlock = some b → v.ownBlock ≠ some b
theorem Apart.symm {u v : Value} (h : Apart u v) : Apart v u := fun b hb e => h b e hb

structure Rows (W : World) (N0 : Nat) (τ : List Ent) : Prop where
  own : ∀ t ∈ τ, W.ownsRow N0 48 1 t.2.1 t.2.2.length (ints t.2.2)
  apart : τ.Pairwise (fun s t => Apart s.2.1 t.2.1)

theorem Rows.kept {W W' : World} {N0 : Nat} {τ : List Ent} {row : Option Nat} (h : Rows W N0 τ) (hg : W.grownBy W' row) (hr : ∀ t ∈ τ, ∀ b, t.2.1.ownBlock = some b → row ≠ some b) : Rows W' N0 τ :=
  ⟨fun t ht => (h.own t ht).kept hg (by
    cases hb : t.2.1.ownBlock with
    | none => exact .inl rfl
    | some b => exact .inr (fun e => hr t ht b hb e.symm)), h.apart⟩
theorem Rows.dropped {W : World} {N0 : Nat} {τ : List Ent} (h : Rows W N0 τ) (k : Int) : Rows W N0 (del k τ) := ⟨fun t ht => h.own t (mem_del ht), pairwise_del h.apart⟩

/-- THE READER's TWO MAPS: the holders H; referrers, entry by entry. -/
structure RepT (W : World) (N0 RD HB RB : Nat) (H : List Int) (τ : List Ent) : Prop where
  r6 : W.cell? ⟨RD, 6, none⟩ = some (.map (some HB))
  r7 : W.cell? ⟨RD, 7, none⟩ = some (.map (some RB))
  hm : MapIs W HB (H.map hv)
  rm : MapIs W RB (τ.map kvT)
  rows : Rows W N0 τ
  rt : ∃ cs fr, W.heap[RD]? = some (.cells cs 72 fr)
  ne : HB ≠ RB
  lo : N0 ≤ RD ∧ N0 ≤ HB ∧ N0 ≤ RB

section
variable {W W' W1 W2 : World} {N0 RD HB RB : Nat} {H : List Int} {τ : List Ent}

theorem RepT.grown {row : Option Nat} (h : RepT W N0 RD HB RB H τ) (hg : W.grownBy W' row) (hr : ∀ r, row = some r → r ≠ RD ∧ r ≠ HB ∧ r ≠ RB ∧ ∀ t ∈ τ, t.2.1.ownBlock ≠ some r) : RepT W' N0 RD HB RB H τ := by
  have hne : ∀ b, (∀ r, row = some r → r ≠ b) → row = none ∨ row ≠ some b := fun b hb => .inr (fun e => hb b e rfl)
  exact ⟨cellG hg (hne RD fun r e => (hr r e).1) h.r6, cellG hg (hne RD fun r e => (hr r e).1) h.r7, h.hm.grown hg (fun e => (hr HB e).2.1 rfl), h.rm.grown hg (fun e => (hr RB e).2.2.1 rfl),
    h.rows.kept hg (fun t ht b hb e => (hr b e).2.2.2 t ht hb), by
      obtain ⟨cs, fr, hh⟩ := h.rt
      exact ⟨cs, fr, (hg.block RD (Array.getElem?_eq_some_iff.1 hh).1 (fun e => (hr RD e.symm).1 rfl)).trans hh⟩, h.ne, h.lo⟩

theorem RepT.new (h : RepT W N0 RD HB RB H τ) (hg : W.grownBy W' none) : RepT W' N0 RD HB RB H τ := h.grown hg (fun r e => by cases e)
theorem RepT.alloc (h : RepT W N0 RD HB RB H τ) (o : Obj) : RepT (W.alloc o) N0 RD HB RB H τ := h.new (World.grownBy_alloc W o none)
theorem RepT.drew (h : RepT W N0 RD HB RB H τ) : RepT W.drew N0 RD HB RB H τ := ⟨h.r6, h.r7, h.hm, h.rm, ⟨h.rows.own, h.rows.apart⟩, h.rt, h.ne, h.lo⟩

/-- A block whose object is neither cells of ids nor a map nor the Reader's is none of these. -/
theorem RepT.far {b : Nat} {o : Obj} (h : RepT W N0 RD HB RB H τ) (ho : W.heap[b]? = some o) (hm : ∀ es ck, o ≠ .map es ck) (hc : ∀ cur, o ≠ .cells cur 48 (0, 0)) (hRD : b ≠ RD) : b ≠ RD ∧ b ≠ HB ∧ b ≠ RB ∧ ∀ t ∈ τ, t.2.1.ownBlock ≠ some b := by
  refine ⟨hRD, ?_, ?_, fun t ht e => ?_⟩
  · rintro rfl; obtain ⟨es, ck, hh, _⟩ := h.hm; rw [ho] at hh; exact hm _ _ (Option.some.inj hh)
  · rintro rfl; obtain ⟨es, ck, hh, _⟩ := h.rm; rw [ho] at hh; exact hm _ _ (Option.some.inj hh)
  · rcases (h.rows.own t ht).2 with ⟨e', _⟩ | ⟨g, cap, cur, e', _, hg, _⟩
    · rw [e'] at e; simp [Value.ownBlock] at e
    · rw [e'] at e
      simp [Value.ownBlock] at e
      subst e
      rw [ho] at hg
      exact hc _ (Option.some.inj hg)

theorem RepT.turn {B : Nat} (h : RepT W N0 RD HB RB H τ) (ht : Turn B W W') : RepT W' N0 RD HB RB H τ := by
  obtain ⟨row, hg, hr⟩ := ht
  refine h.grown hg (fun r e => ?_)
  obtain ⟨_, o, ho, hk⟩ := hr r e
  refine h.far ho (fun es ck e => ?_) (fun cur e => ?_) (fun e => ?_)
  · rcases hk with ⟨_, rfl⟩ | ⟨_, rfl⟩ <;> cases e
  · rcases hk with ⟨_, rfl⟩ | ⟨_, rfl⟩ <;> cases e
  · subst e
    have := h.r6
    rcases hk with ⟨_, rfl⟩ | ⟨_, rfl⟩ <;> simp [World.cell?, ho] at this

/-- The slice that stands at a key, nil where there is none. -/
def tsV (id : Int) (τ : List Ent) : Value := ((get id τ).map (·.1)).getD (.slice none 0 0)
def tsL (id : Int) (τ : List Ent) : List Int := ((get id τ).map (·.2)).getD []

theorem tsV_get (id : Int) (τ : List Ent) : (get id (τ.map kvT)).getD (.slice none 0 0) = tsV id τ := by
  unfold tsV
  rw [← get_map (fun (u : Value × List Int) => u.1) id τ]
  rfl
theorem tsL_get (id : Int) (τ : List Ent) : tsL id τ = (get id (τ.map rhoT)).getD [] := by
  unfold tsL
  rw [← get_map (fun (u : Value × List Int) => u.2) id τ]
  rfl

theorem Rows.ts (h : Rows W N0 τ) (id : Int) : W.ownsRow N0 48 1 (tsV id τ) (tsL id τ).length (ints (tsL id τ)) := by
  unfold tsV tsL
  cases hg : get id τ with
  | none => exact World.ownsRow_nil _ _ _ _
  | some u => exact h.own _ (mem_of_get hg)
theorem Rows.ts_apart (h : Rows W N0 τ) (id : Int) : ∀ t ∈ del id τ, Apart (tsV id τ) t.2.1 := by
  intro t ht
  unfold tsV
  cases hg : get id τ with
  | none => intro b hb; simp [Value.ownBlock] at hb
  | some u => exact get_apart (R := fun s t => Apart s.2.1 t.2.1) (fun _ _ h => h.symm) h.apart hg t ht

theorem RepT.row_ne {v : Value} {n : Nat} {xs : List Value} (h : RepT W N0 RD HB RB H τ) (ho : W.ownsRow N0 48 1 v n xs) {b : Nat} (hb : v.ownBlock = some b) : b ≠ RD ∧ b ≠ HB ∧ b ≠ RB := by
  refine ⟨?_, fun e => h.hm.ne_owns ho (e ▸ hb), fun e => h.rm.ne_owns ho (e ▸ hb)⟩
  rintro rfl
  obtain ⟨cs, fr, hh⟩ := h.rt
  rcases ho.2 with ⟨e', _⟩ | ⟨g, cap, cur, e', _, hg, _⟩
  · rw [e'] at hb; simp [Value.ownBlock] at hb
  · rw [e'] at hb
    simp [Value.ownBlock] at hb
    subst hb
    rw [hh] at hg
    simp at hg

/-- 'r.referrers[id] = append(ts, ..)': the append, then the store. -/
theorem RepT.store {id : Int} {v' : Value} {L' : List Int} (h : RepT W N0 RD HB RB H τ) (hg1 : W.grownBy W1 (tsV id τ).ownBlock) (hown : W1.ownsRow N0 48 1 v' L'.length (ints L'))
    (hat : v'.ownBlock = (tsV id τ).ownBlock ∨ ∃ g, v'.ownBlock = some g ∧ W.heap.size ≤ g) (hm2 : MapIs W2 RB (put id v' (τ.map kvT))) (hg2 : W1.grownBy W2 (some RB)) :
    RepT W2 N0 RD HB RB H (put id (v', L') τ) := by
  have hts := h.rows.ts id
  have hd : RepT W N0 RD HB RB H τ := h
  have hne : ∀ b, (tsV id τ).ownBlock = some b → b ≠ RD ∧ b ≠ HB ∧ b ≠ RB := fun b hb => h.row_ne hts hb
  have rowne : ∀ X, (X = RD ∨ X = HB ∨ X = RB) → (tsV id τ).ownBlock = none ∨ (tsV id τ).ownBlock ≠ some X := fun X hX => .inr (fun e => by
    obtain ⟨h1, h2, h3⟩ := hne X e
    rcases hX with rfl | rfl | rfl
    · exact h1 rfl
    · exact h2 rfl
    · exact h3 rfl)
  have hRDne : RB ≠ RD := by
    rintro rfl
    obtain ⟨cs, fr, hh⟩ := h.rt
    obtain ⟨es, ck, hh', _⟩ := h.rm
    rw [hh] at hh'; cases hh'
  have hrows1 : Rows W1 N0 (Bs.del id τ) := (h.rows.dropped id).kept hg1 (fun t ht b hb e => h.rows.ts_apart id t ht b e hb)
  have hrows2 : Rows W2 N0 (Bs.del id τ) := hrows1.kept hg2 (fun t ht b hb e => by
    have e' := Option.some.inj e
    subst e'
    exact (h.row_ne (h.rows.own t (mem_del ht)) hb).2.2 rfl)
  have hown2 : W2.ownsRow N0 48 1 v' L'.length (ints L') := hown.kept hg2 (.inr (fun e => by
    rcases hat with hat | ⟨g, hat, hle⟩
    · exact (rowne RB (.inr (.inr rfl))).elim (fun h => by rw [hat, h] at e; cases e) (fun h => h (hat ▸ e))
    · rw [hat] at e
      have := Option.some.inj e
      have := h.rm.lt
      omega))
  have hap : ∀ t ∈ Bs.del id τ, Apart v' t.2.1 := fun t ht b hb e => by
    rcases hat with hat | ⟨g, hat, hle⟩
    · exact h.rows.ts_apart id t ht b (hat ▸ hb) e
    · rw [hat] at hb
      obtain rfl := Option.some.inj hb
      have := ((h.rows.own t (mem_del ht)).lt _ e).2
      omega
  refine ⟨cellG hg2 (.inr (by simpa using hRDne)) (cellG hg1 (rowne RD (.inl rfl)) h.r6), cellG hg2 (.inr (by simpa using hRDne)) (cellG hg1 (rowne RD (.inl rfl)) h.r7),
    (h.hm.grown hg1 (fun e => (hne HB e).2.1 rfl)).grown hg2 (by simpa using fun e => h.ne e.symm), ?_, ⟨fun t ht => ?_, ?_⟩, ?_, h.ne, h.lo⟩
  · rw [show (put id (v', L') τ).map kvT = put id v' (τ.map kvT) from put_map (fun (u : Value × List Int) => u.1) id (v', L') τ]
    exact hm2
  · rcases mem_put ht with rfl | ht
    · exact hown2
    · exact hrows2.own t ht
  · exact pairwise_put hrows2.apart (fun t ht => ⟨hap t ht, (hap t ht).symm⟩)
  · obtain ⟨cs, fr, hh⟩ := h.rt
    have h1 := (hg1.block RD (Array.getElem?_eq_some_iff.1 hh).1 (fun e => (hne RD e.symm).1 rfl)).trans hh
    exact ⟨cs, fr, (hg2.block RD (Array.getElem?_eq_some_iff.1 h1).1 (fun e => hRDne (Option.some.inj e).symm)).trans h1⟩

theorem RepT.rd_ne (h : RepT W N0 RD HB RB H τ) : HB ≠ RD ∧ RB ≠ RD := by
  obtain ⟨cs, fr, hh⟩ := h.rt
  refine ⟨?_, ?_⟩
  · rintro rfl; obtain ⟨es, ck, hh', _⟩ := h.hm; rw [hh] at hh'; cases hh'
  · rintro rfl; obtain ⟨es, ck, hh', _⟩ := h.rm; rw [hh] at hh'; cases hh'

/-- 'r.holders[id] = true'. -/
theorem RepT.hold {id : Int} (h : RepT W N0 RD HB RB H τ) (hid : id ∉ H) (hm2 : MapIs W2 HB (put id (.bool true) (H.map hv))) (hg2 : W.grownBy W2 (some HB)) : RepT W2 N0 RD HB RB (H ++ [id]) τ := by
  rw [put_hv H id hid] at hm2
  have hr := h.rd_ne
  obtain ⟨cs, fr, hh⟩ := h.rt
  exact ⟨cellG hg2 (.inr (by simpa using hr.1)) h.r6, cellG hg2 (.inr (by simpa using hr.1)) h.r7, hm2, h.rm.grown hg2 (by simpa using h.ne),
    h.rows.kept hg2 (fun t ht b hb e => by have e' := Option.some.inj e; subst e'; exact (h.row_ne (h.rows.own t ht) hb).2.1 rfl), ⟨cs, fr, (hg2.block RD (Array.getElem?_eq_some_iff.1 hh).1 (fun e => hr.1 (Option.some.inj e).symm)).trans hh⟩, h.ne, h.lo⟩

/-- 'delete(r.referrers, id)'. -/
theorem RepT.drop {id : Int} (h : RepT W N0 RD HB RB H τ) (hm2 : MapIs W2 RB (Bs.del id (τ.map kvT))) (hg2 : W.grownBy W2 (some RB)) : RepT W2 N0 RD HB RB H (Bs.del id τ) := by
  rw [← show (Bs.del id τ).map kvT = Bs.del id (τ.map kvT) from del_map (fun (u : Value × List Int) => u.1) id τ] at hm2
  have hr := h.rd_ne
  obtain ⟨cs, fr, hh⟩ := h.rt
  exact ⟨cellG hg2 (.inr (by simpa using hr.2)) h.r6, cellG hg2 (.inr (by simpa using hr.2)) h.r7, h.hm.grown hg2 (by simpa using fun e => h.ne e.symm), hm2,
    (h.rows.kept hg2 (fun t ht b hb e => by have e' := Option.some.inj e; subst e'; exact (h.row_ne (h.rows.own t ht) hb).2.2 rfl)).dropped id, ⟨cs, fr, (hg2.block RD (Array.getElem?_eq_some_iff.1 hh).1 (fun e => hr.2 (Option.some.inj e).symm)).trans hh⟩, h.ne, h.lo⟩
end

/-! ### What noteHolder computes -/

abbrev Rho := List (Int × List Int)
/-- One id that may yet become a holder: me waits on it, once. -/
def note (me id : Int) (ρ : Rho) : Rho := if ((get id ρ).getD []).getLast? = some me then ρ else put id ((get id ρ).getD [] ++ [me]) ρ
def noteAll (me : Int) (xs : List Int) (ρ : Rho) : Rho := xs.foldl (fun ρ id => if 8 < id then note me id ρ else ρ) ρ
theorem noteAll_snoc (me : Int) (xs : List Int) (x : Int) (ρ : Rho) : noteAll me (xs ++ [x]) ρ = if 8 < x then note me x (noteAll me xs ρ) else noteAll me xs ρ := by simp [noteAll]
/-- None of these ids makes its holder one. -/
def Clear (H xs : List Int) : Prop := ∀ x ∈ xs, x ≠ 8 ∧ x ∉ H
/-- One round of the work list. -/
def dstep (s : List Int × List Int × Rho) : List Int × List Int × Rho :=
  match s.1.getLast? with
  | none => s
  | some id => if id ∈ s.2.1 then (s.1.dropLast, s.2.1, s.2.2) else (s.1.dropLast ++ (get id s.2.2).getD [], s.2.1 ++ [id], Bs.del id s.2.2)
def drain : Nat → List Int × List Int × Rho → List Int × List Int × Rho
  | 0, s => s
  | k + 1, s => dstep (drain k s)
/-- WHAT A CALL OF noteHolder DOES, xs being the ids that the type yields. -/
def NoteStep (xs : List Int) (me : Int) (H : List Int) (ρ : Rho) (H' : List Int) (ρ' : Rho) : Prop :=
  (Clear H xs ∧ H' = H ∧ ρ' = noteAll me xs ρ) ∨
  ∃ pre x, pre ++ [x] <+: xs ∧ Clear H pre ∧ (x = 8 ∨ x ∈ H) ∧ ∃ k, drain k ([me], H, noteAll me pre ρ) = ([], H', ρ')

def tot (ρ : Rho) : Nat := (ρ.map (fun p => p.2.length)).sum
theorem tot_put (k : Int) (v : List Int) (ρ : Rho) : tot (put k v ρ) + ((get k ρ).getD []).length = tot ρ + v.length := by
  induction ρ with
  | nil => simp [put, get, tot]
  | cons p ρ ih =>
    unfold put get
    split
    · simp [tot]; omega
    · simp only [tot, List.map_cons, List.sum_cons] at ih ⊢; omega
theorem tot_del (k : Int) (ρ : Rho) : tot (Bs.del k ρ) + ((get k ρ).getD []).length = tot ρ := by
  induction ρ with
  | nil => simp [Bs.del, get, tot]
  | cons p ρ ih =>
    unfold Bs.del get
    split
    · simp [tot]; omega
    · simp only [tot, List.map_cons, List.sum_cons] at ih ⊢; omega
theorem tot_note (me id : Int) (ρ : Rho) : tot (note me id ρ) ≤ tot ρ + 1 := by
  unfold note
  split
  · omega
  · have := tot_put id ((get id ρ).getD [] ++ [me]) ρ
    simp at this
    omega
theorem tot_noteAll (me : Int) (xs : List Int) (ρ : Rho) : tot (noteAll me xs ρ) ≤ tot ρ + xs.length := by
  induction xs generalizing ρ with
  | nil => simp [noteAll]
  | cons x xs ih =>
    have h1 : noteAll me (x :: xs) ρ = noteAll me xs (if 8 < x then note me x ρ else ρ) := rfl
    rw [h1]
    have := ih (if 8 < x then note me x ρ else ρ)
    have h2 : tot (if 8 < x then note me x ρ else ρ) ≤ tot ρ + 1 := by
      split
      · exact tot_note _ _ _
      · omega
    simp
    omega
theorem get_le_tot (k : Int) (ρ : Rho) : ((get k ρ).getD []).length ≤ tot ρ := by have := tot_del k ρ; omega
end Go.Bs
