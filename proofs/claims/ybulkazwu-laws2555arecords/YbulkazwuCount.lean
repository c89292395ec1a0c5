import Derived.Test.YbulkazwuMaps
namespace Go.Proofs.Ybulkazwu
open Go.RowKit Go.Bs

/-! ### Keys of a map, counted -/
section
variable {α : Type}
theorem get_put_same (k : Int) (v : α) (l : List (Int × α)) : Bs.get k (put k v l) = some v := by
  induction l with
  | nil => simp [put, Bs.get]
  | cons p l ih =>
    unfold put
    split
    · simp [Bs.get]
    · rename_i hp; unfold Bs.get; rw [if_neg hp]; exact ih
theorem get_put_other {k k' : Int} (v : α) (l : List (Int × α)) (h : k' ≠ k) : Bs.get k' (put k v l) = Bs.get k' l := by
  induction l with
  | nil => simp [put, Bs.get, Ne.symm h]
  | cons p l ih =>
    unfold put
    split
    · rename_i hp; unfold Bs.get; rw [if_neg (fun e => h e.symm), if_neg (by rw [hp]; exact fun e => h e.symm)]
    · unfold Bs.get; split
      · rfl
      · exact ih
theorem keys_put_iff (k : Int) (v : α) (l : List (Int × α)) (x : Int) : x ∈ (put k v l).map (·.1) ↔ x = k ∨ x ∈ l.map (·.1) := by
  induction l with
  | nil => simp [put]
  | cons q l ih =>
    unfold put
    split
    · rename_i hq
      simp only [List.map_cons, List.mem_cons, hq]
      constructor
      · rintro (h | h)
        · exact .inl h
        · exact .inr (.inr h)
      · rintro (h | h | h)
        · exact .inl h
        · exact .inl h
        · exact .inr h
    · simp only [List.map_cons, List.mem_cons, ih]
      constructor
      · rintro (h | h | h)
        · exact .inr (.inl h)
        · exact .inl h
        · exact .inr (.inr h)
      · rintro (h | h | h)
        · exact .inr (.inl h)
        · exact .inl h
        · exact .inr (.inr h)
theorem nodup_put (k : Int) (v : α) (l : List (Int × α)) (h : (l.map (·.1)).Nodup) : ((put k v l).map (·.1)).Nodup := by
  induction l with
  | nil => simp [put]
  | cons q l ih =>
    simp only [List.map_cons, List.nodup_cons] at h
    unfold put
    split
    · rename_i hq
      simp only [List.map_cons, List.nodup_cons]
      exact ⟨by rw [← hq]; exact h.1, h.2⟩
    · rename_i hq
      simp only [List.map_cons, List.nodup_cons]
      refine ⟨fun hm => ?_, ih h.2⟩
      rcases (keys_put_iff k v l q.1).1 hm with h1 | h1
      · exact hq h1
      · exact h.1 h1
theorem get_key {k : Int} {l : List (Int × α)} (h : k ∈ l.map (·.1)) : ∃ v, Bs.get k l = some v := by
  induction l with
  | nil => simp at h
  | cons q l ih =>
    have e : Bs.get k (q :: l) = if q.1 = k then some q.2 else Bs.get k l := rfl
    rw [e]
    by_cases hq : q.1 = k
    · exact ⟨_, if_pos hq⟩
    · rw [if_neg hq]
      refine ih ?_
      simp only [List.map_cons, List.mem_cons] at h
      rcases h with h | h
      · exact absurd h.symm hq
      · exact h
end

/-- How many of the first k are in l. -/
def cnt (l : List Int) (b : Int) : Nat → Nat
  | 0 => 0
  | k + 1 => cnt l b k + if b + (k : Int) ∈ l then 1 else 0
theorem cnt_cons {l : List Int} {b x : Int} (hx : x ∉ l) {j : Nat} (e : x = b + (j : Int)) : ∀ k, cnt (x :: l) b k = cnt l b k + if j < k then 1 else 0
  | 0 => by simp [cnt]
  | k + 1 => by
    have e1 : ∀ l : List Int, cnt l b (k + 1) = cnt l b k + if b + (k : Int) ∈ l then 1 else 0 := fun _ => rfl
    rw [e1, e1, cnt_cons hx e k]
    by_cases hj : j = k
    · subst hj
      have h1 : b + (j : Int) ∈ x :: l := by rw [e]; simp
      have h2 : b + (j : Int) ∉ l := by rw [← e]; exact hx
      rw [if_pos h1, if_neg h2, if_neg (by omega), if_pos (by omega)]
    · have hne : ¬ b + (k : Int) = x := by omega
      simp only [List.mem_cons, hne, false_or]
      by_cases h1 : j < k
      · have h2 : j < k + 1 := by omega
        simp only [h1, h2, if_true]
        omega
      · have h2 : ¬ j < k + 1 := by omega
        simp only [h1, h2, if_false]
        omega
theorem cnt_nil (b : Int) : ∀ k, cnt [] b k = 0
  | 0 => rfl
  | k + 1 => by simp [cnt, cnt_nil b k]
theorem cnt_congr {l l' : List Int} (h : ∀ x, x ∈ l ↔ x ∈ l') (b : Int) : ∀ k, cnt l b k = cnt l' b k
  | 0 => rfl
  | k + 1 => by simp only [cnt, cnt_congr h b k, h]
theorem cnt_le (l : List Int) (b : Int) : ∀ k, cnt l b k ≤ k
  | 0 => Nat.le_refl _
  | k + 1 => by
    have := cnt_le l b k
    unfold cnt
    split <;> omega
/-- A list without doubles, of ids b .. b + n - 1, is as long as it has members. -/
theorem length_cnt {l : List Int} {b : Int} {n : Nat} (h : l.Nodup) (hm : ∀ x ∈ l, ∃ i, i < n ∧ x = b + (i : Int)) : cnt l b n = l.length := by
  induction l with
  | nil => exact cnt_nil b n
  | cons x l ih =>
    rw [List.nodup_cons] at h
    obtain ⟨j, hj, e⟩ := hm x (by simp)
    rw [cnt_cons h.1 e, if_pos hj, ih h.2 (fun y hy => hm y (by simp [hy]))]
    rfl
end Go.Proofs.Ybulkazwu
