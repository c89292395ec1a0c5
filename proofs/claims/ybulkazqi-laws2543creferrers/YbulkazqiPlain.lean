import Derived.Test.YbulkazqiRun
namespace Go.Proofs.Ybulkazqi
open Go.RowKit Go.Shelf Go.Bs

/-! ### Lists -/
def Incr (l : List Int) : Prop := l.Pairwise (· < ·)
theorem incr_snoc {l : List Int} {x : Int} (h : Incr l) (hl : ∀ y ∈ l, y < x) : Incr (l ++ [x]) := by
  unfold Incr
  rw [List.pairwise_append]
  exact ⟨h, List.pairwise_singleton _ _, fun a ha b hb => by rw [List.mem_singleton.1 hb]; exact hl a ha⟩
theorem incr_lt_last {l : List Int} {x : Int} (h : Incr l) (hl : ∀ y ∈ l, y ≤ x) (hn : l.getLast? ≠ some x) : ∀ y ∈ l, y < x := by
  rcases List.eq_nil_or_concat l with rfl | ⟨L, z, rfl⟩
  · intro y hy; cases hy
  · rw [List.concat_eq_append] at h hl hn ⊢
    unfold Incr at h
    rw [List.pairwise_append] at h
    have hz : z < x := by
      have h1 := hl z (by simp)
      have h2 : z ≠ x := fun e => hn (by simp [e])
      omega
    intro y hy
    rcases List.mem_append.1 hy with hy | hy
    · have := h.2.2 y hy z (by simp); omega
    · rw [List.mem_singleton.1 hy]; exact hz

section
variable {α : Type}
theorem get_put_same (k : Int) (v : α) (l : List (Int × α)) : Bs.get k (put k v l) = some v := by
  induction l with
  | nil => simp [put, Bs.get]
  | cons p l ih =>
    unfold put
    split
    · simp [Bs.get]
    · rename_i hp; unfold Bs.get; rw [if_neg hp]; exact ih
theorem get_put_other {k k' : Int} (v : α) (l : List (Int × α)) (h : k' ≠ k) : Bs.get k' (put k v l) = Bs.get k' l := by
  induction l with
  | nil => simp [put, Bs.get, Ne.symm h]
  | cons p l ih =>
    unfold put
    split
    · rename_i hp; unfold Bs.get; rw [if_neg (fun e => h e.symm), if_neg (by rw [hp]; exact fun e => h e.symm)]
    · unfold Bs.get; split
      · rfl
      · exact ih
theorem get_del_other {k k' : Int} (l : List (Int × α)) (h : k' ≠ k) : Bs.get k' (Bs.del k l) = Bs.get k' l := by
  induction l with
  | nil => rfl
  | cons p l ih =>
    unfold Bs.del
    split
    · rename_i hp
      have e : Bs.get k' (p :: l) = if p.1 = k' then some p.2 else Bs.get k' l := rfl
      rw [e, if_neg (by rw [hp]; exact fun e => h e.symm)]
    · unfold Bs.get; split
      · rfl
      · exact ih
theorem keys_put (k : Int) (v : α) (l : List (Int × α)) : ∀ p ∈ put k v l, p.1 = k ∨ ∃ q ∈ l, q.1 = p.1 := by
  induction l with
  | nil => intro p hp; simp [put] at hp; rw [hp]; exact .inl rfl
  | cons q l ih =>
    intro p hp
    unfold put at hp
    split at hp
    · rcases List.mem_cons.1 hp with rfl | hp
      · exact .inl rfl
      · exact .inr ⟨p, by simp [hp], rfl⟩
    · rcases List.mem_cons.1 hp with rfl | hp
      · exact .inr ⟨p, by simp, rfl⟩
      · rcases ih p hp with h | ⟨q', h1, h2⟩
        · exact .inl h
        · exact .inr ⟨q', by simp [h1], h2⟩
theorem nodup_put (k : Int) (v : α) (l : List (Int × α)) (h : (l.map (·.1)).Nodup) : ((put k v l).map (·.1)).Nodup := by
  induction l with
  | nil => simp [put]
  | cons q l ih =>
    simp only [List.map_cons, List.nodup_cons] at h
    unfold put
    split
    · rename_i hq
      simp only [List.map_cons, List.nodup_cons]
      exact ⟨by rw [← hq]; exact h.1, h.2⟩
    · rename_i hq
      simp only [List.map_cons, List.nodup_cons]
      refine ⟨fun hm => ?_, ih h.2⟩
      obtain ⟨p, hp, e⟩ := List.mem_map.1 hm
      rcases keys_put k v l p hp with h1 | ⟨q', h1, h2⟩
      · exact hq (e ▸ h1)
      · exact h.1 (List.mem_map.2 ⟨q', h1, h2.trans e⟩)
theorem nodup_del (k : Int) (l : List (Int × α)) (h : (l.map (·.1)).Nodup) : ((Bs.del k l).map (·.1)).Nodup := by
  induction l with
  | nil => simp [Bs.del]
  | cons q l ih =>
    simp only [List.map_cons, List.nodup_cons] at h
    unfold Bs.del
    split
    · exact h.2
    · simp only [List.map_cons, List.nodup_cons]
      refine ⟨fun hm => ?_, ih h.2⟩
      obtain ⟨p, hp, e⟩ := List.mem_map.1 hm
      exact h.1 (List.mem_map.2 ⟨p, mem_del hp, e⟩)
theorem key_del {k : Int} {l : List (Int × α)} (h : (l.map (·.1)).Nodup) : ∀ p ∈ Bs.del k l, p.1 ≠ k := by
  induction l with
  | nil => intro p hp; cases hp
  | cons q l ih =>
    simp only [List.map_cons, List.nodup_cons] at h
    intro p hp
    unfold Bs.del at hp
    split at hp
    · rename_i hq
      intro e
      exact h.1 (List.mem_map.2 ⟨p, hp, e.trans hq.symm⟩)
    · rename_i hq
      rcases List.mem_cons.1 hp with rfl | hp
      · exact hq
      · exact ih h.2 p hp
theorem get_of_mem {l : List (Int × α)} (h : (l.map (·.1)).Nodup) {k : Int} {v : α} (hm : (k, v) ∈ l) : Bs.get k l = some v := by
  induction l with
  | nil => cases hm
  | cons q l ih =>
    simp only [List.map_cons, List.nodup_cons] at h
    unfold Bs.get
    rcases List.mem_cons.1 hm with rfl | hm
    · simp
    · rw [if_neg (fun e => h.1 (List.mem_map.2 ⟨(k, v), hm, e.symm⟩))]
      exact ih h.2 hm
end

/-- What waits on a key. -/
def at_ (κ : Int) (ρ : Rho) : List Int := (Bs.get κ ρ).getD []
theorem at_note_self (me κ : Int) (ρ : Rho) : me ∈ at_ κ (note me κ ρ) := by
  unfold note at_
  split
  · rename_i h
    exact List.mem_of_getLast? h
  · rw [get_put_same]; simp
theorem at_note_mem {me κ id y : Int} {ρ : Rho} : y ∈ at_ κ (note me id ρ) ↔ y ∈ at_ κ ρ ∨ (κ = id ∧ y = me) := by
  unfold note at_
  split
  · rename_i h
    constructor
    · exact .inl
    · rintro (h1 | ⟨rfl, rfl⟩)
      · exact h1
      · exact List.mem_of_getLast? h
  · by_cases e : κ = id
    · subst e
      rw [get_put_same]
      simp
    · rw [get_put_other _ _ e]
      simp [e]

/-- The lists are sound: keys above 8 and none a holder; what waits is increasing, defined below m, and refers to its key. -/
structure Good (n m : Nat) (R : Nat → List Int) (H : List Int) (ρ : Rho) : Prop where
  nd : (ρ.map (·.1)).Nodup
  key : ∀ p ∈ ρ, 8 < p.1 ∧ p.1 ≤ 9 + n ∧ p.1 ∉ H
  inc : ∀ κ, Incr (at_ κ ρ)
  ref : ∀ κ, ∀ y ∈ at_ κ ρ, ∃ j, j < m ∧ y = 9 + (j : Int) ∧ κ ∈ R j

theorem Good.mono {n m m' : Nat} {R : Nat → List Int} {H : List Int} {ρ : Rho} (h : Good n m R H ρ) (hm : m ≤ m') : Good n m' R H ρ :=
  ⟨h.nd, h.key, h.inc, fun κ y hy => let ⟨j, h1, h2⟩ := h.ref κ y hy; ⟨j, by omega, h2⟩⟩

theorem Good.note {n m : Nat} {R : Nat → List Int} {H : List Int} {ρ : Rho} (h : Good n (m + 1) R H ρ) {id : Int} (hid : id ∈ R m) (h8 : 8 < id) (hn : id ≤ 9 + n) (hH : id ∉ H) : Good n (m + 1) R H (note (9 + m) id ρ) := by
  refine ⟨?_, ?_, fun κ => ?_, fun κ y hy => ?_⟩
  · unfold Bs.note
    split
    · exact h.nd
    · exact nodup_put _ _ _ h.nd
  · unfold Bs.note
    split
    · exact h.key
    · intro p hp
      rcases keys_put _ _ _ p hp with e | ⟨q, h1, h2⟩
      · rw [e]; exact ⟨h8, hn, hH⟩
      · rw [← h2]; exact h.key q h1
  · unfold Bs.note
    split
    · exact h.inc κ
    · rename_i hl
      by_cases e : κ = id
      · subst e
        unfold at_
        rw [get_put_same]
        refine incr_snoc (h.inc κ) (incr_lt_last (h.inc κ) (fun y hy => ?_) hl)
        obtain ⟨j, h1, rfl, _⟩ := h.ref κ y hy
        omega
      · unfold at_
        rw [get_put_other _ _ e]
        exact h.inc κ
  · rcases at_note_mem.1 hy with hy | ⟨rfl, rfl⟩
    · exact h.ref κ y hy
    · exact ⟨m, by omega, rfl, hid⟩

theorem noteAll_cons (me x : Int) (xs : List Int) (ρ : Rho) : noteAll me (x :: xs) ρ = noteAll me xs (if 8 < x then note me x ρ else ρ) := rfl
theorem Good.noteAll {n m : Nat} {R : Nat → List Int} {H : List Int} : ∀ {xs : List Int} {ρ : Rho}, Good n (m + 1) R H ρ → (∀ x ∈ xs, x ∈ R m ∧ x ≤ 9 + n ∧ x ∉ H) → Good n (m + 1) R H (Bs.noteAll (9 + m) xs ρ)
  | [], ρ, h, _ => h
  | x :: xs, ρ, h, hx => by
    rw [noteAll_cons]
    refine Good.noteAll ?_ (fun y hy => hx y (by simp [hy]))
    split
    · rename_i h8
      obtain ⟨h1, h2, h3⟩ := hx x (by simp)
      exact h.note h1 h8 h2 h3
    · exact h
theorem noteAll_keeps {me : Int} : ∀ {xs : List Int} {ρ : Rho} {κ y : Int}, y ∈ at_ κ ρ → y ∈ at_ κ (Bs.noteAll me xs ρ)
  | [], ρ, κ, y, h => h
  | x :: xs, ρ, κ, y, h => by
    rw [noteAll_cons]
    refine noteAll_keeps ?_
    split
    · exact at_note_mem.2 (.inl h)
    · exact h
theorem noteAll_has {me : Int} : ∀ {xs : List Int} {ρ : Rho} {x : Int}, x ∈ xs → 8 < x → me ∈ at_ x (Bs.noteAll me xs ρ)
  | z :: xs, ρ, x, h, h8 => by
    rw [noteAll_cons]
    rcases List.mem_cons.1 h with rfl | h
    · rw [if_pos h8]; exact noteAll_keeps (at_note_self _ _ _)
    · exact noteAll_has h h8

/-- The least fixed point: id is in every closed set. -/
def Der (n : Nat) (R : Nat → List Int) (id : Int) : Prop := ∀ S : Int → Prop, (∀ i, i < n → (∃ r ∈ R i, r = 8 ∨ S r) → S (9 + (i : Int))) → S id
theorem Der.step {n : Nat} {R : Nat → List Int} {i : Nat} (hi : i < n) {r : Int} (hr : r ∈ R i) (h : r = 8 ∨ Der n R r) : Der n R (9 + (i : Int)) :=
  fun S hS => hS i hi ⟨r, hr, h.imp id (fun h => h S hS)⟩

/-- A type that is no holder: it refers to no holder, and waits on all that may become one. -/
def Waits (R : Nat → List Int) (H : List Int) (ρ : Rho) (i : Nat) : Prop := ∀ r ∈ R i, r ≠ 8 ∧ r ∉ H ∧ (8 < r → 9 + (i : Int) ∈ at_ r ρ)

/-- THE STATE behind the first m definitions, ids still to be worked off. -/
structure Sta (n m : Nat) (R : Nat → List Int) (ids H : List Int) (ρ : Rho) : Prop where
  nd : H.Nodup
  hd : ∀ h ∈ H, ∃ i, i < m ∧ h = 9 + (i : Int)
  der : ∀ h ∈ H, Der n R h
  wl : ∀ y ∈ ids, (∃ i, i < m ∧ y = 9 + (i : Int)) ∧ Der n R y
  good : Good n m R H ρ
  wait : ∀ i, i < m → 9 + (i : Int) ∉ H → 9 + (i : Int) ∈ ids ∨ Waits R H ρ i

theorem Sta.dstep {n m : Nat} {R : Nat → List Int} (hmn : m ≤ n) {ids H : List Int} {ρ : Rho} (h : Sta n m R ids H ρ) : Sta n m R (Bs.dstep (ids, H, ρ)).1 (Bs.dstep (ids, H, ρ)).2.1 (Bs.dstep (ids, H, ρ)).2.2 := by
  unfold Bs.dstep
  rcases List.eq_nil_or_concat ids with rfl | ⟨L, z, rfl⟩
  · exact h
  · rw [List.concat_eq_append] at h ⊢
    simp only [List.getLast?_append, List.getLast?_singleton, Option.some_or, List.dropLast_concat]
    obtain ⟨⟨zi, hzi, rfl⟩, hzd⟩ := h.wl z (by simp)
    split
    · rename_i hz
      refine ⟨h.nd, h.hd, h.der, fun y hy => h.wl y (by simp [hy]), h.good, fun i hi hH => ?_⟩
      rcases h.wait i hi hH with hw | hw
      · rcases List.mem_append.1 hw with hw | hw
        · exact .inl hw
        · exact absurd (List.mem_singleton.1 hw ▸ hz) hH
      · exact .inr hw
    · rename_i hz
      refine ⟨?_, ?_, ?_, ?_, ⟨nodup_del _ _ h.good.nd, ?_, ?_, ?_⟩, ?_⟩
      · simp only
        rw [List.nodup_append]
        exact ⟨h.nd, by simp, fun a ha b hb => by rw [List.mem_singleton.1 hb]; exact fun e => hz (e ▸ ha)⟩
      · intro y hy
        rcases List.mem_append.1 hy with hy | hy
        · exact h.hd y hy
        · exact ⟨zi, hzi, List.mem_singleton.1 hy⟩
      · intro y hy
        rcases List.mem_append.1 hy with hy | hy
        · exact h.der y hy
        · rw [List.mem_singleton.1 hy]; exact hzd
      · intro y hy
        rcases List.mem_append.1 hy with hy | hy
        · exact h.wl y (by simp [hy])
        · obtain ⟨j, hj, rfl, hr⟩ := h.good.ref _ y hy
          exact ⟨⟨j, hj, rfl⟩, Der.step (by omega) hr (.inr hzd)⟩
      · intro p hp
        obtain ⟨h1, h2, h3⟩ := h.good.key p (mem_del hp)
        refine ⟨h1, h2, fun hm => ?_⟩
        rcases List.mem_append.1 hm with hm | hm
        · exact h3 hm
        · exact key_del h.good.nd p hp (List.mem_singleton.1 hm)
      · intro κ
        by_cases e : κ = 9 + (zi : Int)
        · subst e
          unfold at_
          cases hg : Bs.get (9 + (zi : Int)) (Bs.del (9 + (zi : Int)) ρ) with
          | none => exact List.Pairwise.nil
          | some v => exact absurd rfl (key_del h.good.nd _ (mem_of_get hg))
        · unfold at_; rw [get_del_other _ e]; exact h.good.inc κ
      · intro κ y hy
        by_cases e : κ = 9 + (zi : Int)
        · subst e
          unfold at_ at hy
          cases hg : Bs.get (9 + (zi : Int)) (Bs.del (9 + (zi : Int)) ρ) with
          | none => rw [hg] at hy; cases hy
          | some v => exact absurd rfl (key_del h.good.nd _ (mem_of_get hg))
        · unfold at_ at hy; rw [get_del_other _ e] at hy; exact h.good.ref κ y hy
      · intro i hi hH
        simp only [List.mem_append, List.mem_singleton, not_or] at hH
        rcases h.wait i hi hH.1 with hw | hw
        · rcases List.mem_append.1 hw with hw | hw
          · exact .inl (by simp [hw])
          · exact absurd (List.mem_singleton.1 hw) hH.2
        · by_cases hz' : 9 + (zi : Int) ∈ R i
          · exact .inl (List.mem_append.2 (.inr ((hw _ hz').2.2 (by omega))))
          · refine .inr (fun r hr => ?_)
            obtain ⟨h1, h2, h3⟩ := hw r hr
            have hne : r ≠ 9 + (zi : Int) := fun e => hz' (e ▸ hr)
            refine ⟨h1, by simp [h2, hne], fun h8 => ?_⟩
            unfold at_; rw [get_del_other _ hne]; exact h3 h8

theorem Sta.drain {n m : Nat} {R : Nat → List Int} (hmn : m ≤ n) {ids H : List Int} {ρ : Rho} (h : Sta n m R ids H ρ) : ∀ k, Sta n m R (Bs.drain k (ids, H, ρ)).1 (Bs.drain k (ids, H, ρ)).2.1 (Bs.drain k (ids, H, ρ)).2.2
  | 0 => h
  | k + 1 => Sta.dstep hmn (Sta.drain hmn h k)

theorem Sta.step {n m : Nat} {R : Nat → List Int} (hmn : m < n) (hR : ∀ r ∈ R m, r ≤ 9 + n) {H H' : List Int} {ρ ρ' : Rho} (h : Sta n m R [] H ρ) (hs : NoteStep (R m) (9 + m) H ρ H' ρ') : Sta n (m + 1) R [] H' ρ' := by
  have hwk : ∀ (xs : List Int) i, i < m → 9 + (i : Int) ∉ H → Waits R H (noteAll (9 + m) xs ρ) i := fun xs i hi hH r hr => by
    rcases h.wait i hi hH with hw | hw
    · cases hw
    · obtain ⟨h1, h2, h3⟩ := hw r hr
      exact ⟨h1, h2, fun h8 => noteAll_keeps (h3 h8)⟩
  rcases hs with ⟨hc, rfl, rfl⟩ | ⟨pre, x, hp, hc, hx, k, hk⟩
  · refine ⟨h.nd, fun y hy => let ⟨i, h1, h2⟩ := h.hd y hy; ⟨i, by omega, h2⟩, h.der, (fun y hy => by cases hy), (h.good.mono (by omega)).noteAll (fun x hx => ⟨hx, hR x hx, (hc x hx).2⟩), fun i hi hH => .inr ?_⟩
    by_cases e : i = m
    · subst e
      exact fun r hr => ⟨(hc r hr).1, (hc r hr).2, fun h8 => noteAll_has hr h8⟩
    · exact hwk _ i (by omega) hH
  · have hsub : ∀ y ∈ pre ++ [x], y ∈ R m := fun y hy => hp.subset hy
    have hi0 : Sta n (m + 1) R [9 + (m : Int)] H (noteAll (9 + m) pre ρ) := by
      refine ⟨h.nd, fun y hy => let ⟨i, h1, h2⟩ := h.hd y hy; ⟨i, by omega, h2⟩, h.der, fun y hy => ?_, (h.good.mono (by omega)).noteAll (fun y hy => ⟨hsub y (by simp [hy]), hR y (hsub y (by simp [hy])), (hc y hy).2⟩), fun i hi hH => ?_⟩
      · rw [List.mem_singleton.1 hy]
        exact ⟨⟨m, by omega, rfl⟩, Der.step hmn (hsub x (by simp)) (hx.imp id (fun hx => h.der x hx))⟩
      · by_cases e : i = m
        · subst e; exact .inl (by simp)
        · exact .inr (hwk _ i (by omega) hH)
    have := Sta.drain (by omega : m + 1 ≤ n) hi0 k
    rw [hk] at this
    exact this

theorem Sta.start (n : Nat) (R : Nat → List Int) : Sta n 0 R [] [] [] :=
  ⟨List.nodup_nil, (fun _ h => by cases h), (fun _ h => by cases h), (fun _ h => by cases h), ⟨List.nodup_nil, (fun _ h => by cases h), (fun κ => List.Pairwise.nil), (fun κ y hy => by cases hy)⟩, (fun i hi => by omega)⟩

theorem refOf_range (n : Nat) (b : Int) : refOf n b = 8 ∨ refOf n b = 2 ∨ (9 ≤ refOf n b ∧ refOf n b ≤ 9 + n) := by
  have hm0 : 0 ≤ b % ((n : Int) + 3) := Int.emod_nonneg _ (by omega)
  have hm1 : b % ((n : Int) + 3) < (n : Int) + 3 := Int.emod_lt_of_pos _ (by omega)
  unfold refOf
  split
  · exact .inl rfl
  · split
    · exact .inr (.inl rfl)
    · exact .inr (.inr (by omega))
theorem rAt_range (n : Nat) (rs : List Int) (i : Nat) : rAt n rs i = 8 ∨ rAt n rs i = 2 ∨ (9 ≤ rAt n rs i ∧ rAt n rs i ≤ 9 + n) := by
  unfold rAt
  split
  · exact refOf_range n _
  · exact .inr (.inl rfl)
theorem refsOf_range (n : Nat) (k : Int) (rs : List Int) : ∀ r ∈ refsOf n k rs, r = 8 ∨ r = 2 ∨ (9 ≤ r ∧ r ≤ 9 + n) := by
  intro r hr
  have h4 : k % 4 = 0 ∨ k % 4 = 1 ∨ k % 4 = 2 ∨ k % 4 = 3 := by omega
  rcases h4 with e | e | e | e
  · simp [refsOf, yields, kdOf, elOf, e] at hr
    rw [hr]; exact rAt_range n rs 0
  · simp [refsOf, yields, kdOf, elOf, kyOf, e] at hr
    rcases hr with rfl | rfl
    · exact rAt_range n rs 0
    · exact rAt_range n rs 1
  · simp [refsOf, yields, kdOf, fsOf, e] at hr
    obtain ⟨b, _, rfl⟩ := hr
    exact refOf_range n b
  · simp [refsOf, yields, kdOf, e] at hr
theorem rsAt_range {n : Nat} {ds : List DefT} (i : Nat) : ∀ r ∈ rsAt n ds i, r = 8 ∨ r = 2 ∨ (9 ≤ r ∧ r ≤ 9 + n) := by
  unfold rsAt
  split
  · exact refsOf_range n _ _
  · intro r hr; cases hr

theorem RunTo.inv {n : Nat} {ds : List DefT} : ∀ {m : Nat} {H : List Int} {ρ : Rho}, m ≤ n → RunTo n ds m H ρ → Sta n m (rsAt n ds) [] H ρ
  | 0, H, ρ, _, hr => by obtain ⟨rfl, rfl⟩ := hr; exact Sta.start n _
  | m + 1, H, ρ, hm, hr => by
    obtain ⟨H0, ρ0, h0, hs⟩ := hr
    refine Sta.step (by omega) (fun r hr => ?_) (RunTo.inv (by omega) h0) hs
    rcases rsAt_range m r hr with h | h | h <;> omega

/-- How many of the first k are in l. -/
def cnt (l : List Int) (b : Int) : Nat → Nat
  | 0 => 0
  | k + 1 => cnt l b k + if b + (k : Int) ∈ l then 1 else 0
theorem cnt_cons {l : List Int} {b x : Int} (hx : x ∉ l) {j : Nat} (e : x = b + (j : Int)) : ∀ k, cnt (x :: l) b k = cnt l b k + if j < k then 1 else 0
  | 0 => by simp [cnt]
  | k + 1 => by
    have e1 : ∀ l : List Int, cnt l b (k + 1) = cnt l b k + if b + (k : Int) ∈ l then 1 else 0 := fun _ => rfl
    rw [e1, e1, cnt_cons hx e k]
    by_cases hj : j = k
    · subst hj
      have h1 : b + (j : Int) ∈ x :: l := by rw [e]; simp
      have h2 : b + (j : Int) ∉ l := by rw [← e]; exact hx
      rw [if_pos h1, if_neg h2, if_neg (by omega), if_pos (by omega)]
    · have hne : ¬ b + (k : Int) = x := by omega
      simp only [List.mem_cons, hne, false_or]
      by_cases h1 : j < k
      · have h2 : j < k + 1 := by omega
        simp only [h1, h2, if_true]
        omega
      · have h2 : ¬ j < k + 1 := by omega
        simp only [h1, h2, if_false]
        omega
theorem cnt_nil (b : Int) : ∀ k, cnt [] b k = 0
  | 0 => rfl
  | k + 1 => by simp [cnt, cnt_nil b k]
/-- A list without doubles, of ids b .. b + n - 1, is as long as it has members. -/
theorem length_cnt {l : List Int} {b : Int} {n : Nat} (h : l.Nodup) (hm : ∀ x ∈ l, ∃ i, i < n ∧ x = b + (i : Int)) : cnt l b n = l.length := by
  induction l with
  | nil => exact cnt_nil b n
  | cons x l ih =>
    rw [List.nodup_cons] at h
    obtain ⟨j, hj, e⟩ := hm x (by simp)
    rw [cnt_cons h.1 e, if_pos hj, ih h.2 (fun y hy => hm y (by simp [hy]))]
    rfl
end Go.Proofs.Ybulkazqi
