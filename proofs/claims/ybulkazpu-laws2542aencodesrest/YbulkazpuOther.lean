import Derived.Test.YbulkazpuDec
import Derived.Test.YbulkazpuEnc
namespace Go.Proofs.Ybulkazpu
open Go.RowKit Go.Bs

/-- What is known behind 'otherPayload', D being the transactions. -/
def After (A : Nat) (s : Bool) (zs : List Int) (D : List (List Int)) (w w' : World) (out : Value) : Prop :=
  ∃ eIn dIn c, w'.cell? ⟨A, 3, none⟩ = some dIn ∧ Sl (· ≠ A) w' dIn [c] ∧ Sl (· ≠ A) w' c (u8s zs) ∧ w'.cell? ⟨A, 4, none⟩ = some eIn ∧ w.grownBy w' (some A) ∧
    ((D = [] ∧ eIn = .slice none 0 0 ∧ Sl (· ≠ A) w' out (u8s [0])) ∨
     ∃ d ds rec rs, D = d :: ds ∧ Sl (· ≠ A) w' eIn [rec] ∧ Sl (· ≠ A) w' rec rs ∧ Sls (· ≠ A) w' rs ds ∧ Sl (· ≠ A) w' out (u8s (enc s ds)))

set_option maxRecDepth 100000 in
set_option maxHeartbeats 1600000 in
theorem other_any (A R : Nat) (s : Bool) (dec v : Value) (vs : List Value) (zss : List (List Int)) (zs : List Int) (w : World) (hA : A < w.heap.size) (hAR : R ≠ A)
    (r3 : w.cell? ⟨R, 3, none⟩ = some (.iface 23 (.pointer (some ⟨A, 0, none⟩))))
    (c1 : w.cell? ⟨A, 1, none⟩ = some (.bool s)) (c2 : w.cell? ⟨A, 2, none⟩ = some dec) (c3 : w.cell? ⟨A, 3, none⟩ = some (.slice none 0 0)) (f3 : w.frozen? ⟨A, 3, none⟩ = false) (c4 : w.cell? ⟨A, 4, none⟩ = some (.slice none 0 0)) (f4 : w.frozen? ⟨A, 4, none⟩ = false)
    (h : Sl (· ≠ A) w v (u8s zs)) (hl : zs.length ≤ 1024) (hd : Sl (· ≠ A) w dec vs) (hds : Sls (· ≠ A) w vs zss) (hdl : zss.length ≤ 1024) (hdm : ∀ zs ∈ zss, zs.length ≤ 1024) :
    Calls Yba.prog 7 #[.pointer (some ⟨R, 0, none⟩), v] w fun e w' => ∃ out, e = .returned out ∧ After A s zs (decoded s zss zs) w w' out := by
  have hm1 : ∀ w : World, (method 338 23 (.pointer (some ⟨A, 0, none⟩)) "Decode").run Yba.prog w = .ok (46, .pointer (some ⟨A, 0, none⟩)) w := fun _ => by kernel_rfl
  have hm2 : ∀ w : World, (method 338 23 (.pointer (some ⟨A, 0, none⟩)) "Encode").run Yba.prog w = .ok (47, .pointer (some ⟨A, 0, none⟩)) w := fun _ => by kernel_rfl
  have HDL : Hid ((decoded s zss zs).length ≤ 1024) := by show (decoded s zss zs).length ≤ 1024; unfold decoded; cases s <;> simp <;> omega
  have HDM : Hid (∀ z ∈ decoded s zss zs, z.length ≤ 1024) := by
    show ∀ z ∈ decoded s zss zs, z.length ≤ 1024
    unfold decoded
    cases s
    · intro z hz
      simp at hz
      obtain ⟨a, _, rfl⟩ := hz
      simp
    · intro z hz
      exact hdm z (by simpa using hz)
  go_enter Yba.func7, Yba.ntmps7
  go_wp2_with fail
  refine (decode_any A s dec v vs zss zs w hA c1 c2 c3 f3 h hl hd hds hdl hdm).mono ?_
  rintro e w1 ⟨out1, dIn, c, rs, rfl, hN, hD, hC, hO, hOs⟩
  obtain ⟨a, cap, rfl, hcap, hmax, hcs⟩ := hO.shape
  unfold maxLen at hmax
  have q3 := cellG hN.grown (.inr (by simpa using hAR.symm)) r3
  have q4 := (hN.other 4 (by decide)).trans c4
  have q1 := (hN.other 1 (by decide)).trans c1
  have g4 := (hN.frozen 4).trans f4
  have hA1 : A < w1.heap.size := Nat.lt_of_lt_of_le hA hN.grown.size
  obtain ⟨D, HD⟩ : ∃ D, Hid (D = decoded s zss zs) := ⟨_, rfl⟩
  rw [← HD.out] at hOs HDL HDM
  clear c1 c2 c3 f3 c4 f4 h hl hd hds hdl hdm r3
  cases D with
  | nil =>
    have hrl : rs = [] := List.eq_nil_of_length_eq_zero (by simpa using hOs.1)
    subst hrl
    go_wp2
    go_ret
    refine ⟨_, rfl, .slice none 0 0, dIn, c, ?_, hD.alloc _, hC.alloc _, ?_, grownBy.alloc hN.grown _, .inl ⟨HD.out.symm, rfl, ?_⟩⟩
    · exact cellG (World.grownBy_alloc _ _ none) (.inl rfl) hN.here
    · exact cellG (World.grownBy_alloc _ _ none) (.inl rfl) q4
    · exact Sl.lit w1 #[.int .u8 0] 5 (by omega) (by simp [maxLen])
  | cons d ds =>
    obtain ⟨r0, rs', rfl⟩ : ∃ r0 rs', rs = r0 :: rs' := by
      cases rs with
      | nil => have := hOs.1; simp at this
      | cons r0 rs' => exact ⟨r0, rs', rfl⟩
    obtain ⟨b, off, rfl, _, hc1, hc2, hT, hT0⟩ := hO.tail
    have hOt := hOs.tail
    have hlen : rs'.length = ds.length := hOt.1
    obtain ⟨m, HM⟩ : ∃ m, Hid (m = rs'.length + 1) := ⟨_, rfl⟩
    have hb1 : (1 : Int) ≤ (m : Int) := by have := HM.out; omega
    have hb2 : (m : Int) ≤ (cap : Int) := by have := HM.out; omega
    have hb3 : (1 : Int) ≤ (cap : Int) := by have := HM.out; omega
    have hb4 : (0 : Int) ≤ (1 : Int) := by decide
    simp only [List.length_cons] at hcap ⊢
    rw [← HM.out]
    have HLN : Hid (rs'.length = ds.length) := hlen
    clear hlen
    have hds1 : ds.length ≤ 1024 := by have := HDL.out; simp at this; omega
    have hds2 : ∀ z ∈ ds, z.length ≤ 1024 := fun z hz => HDM.out z (by simp [hz])
    have ENC : ∀ tx : Value, Sl (· ≠ A) w1 tx rs' → Hid (Calls Yba.prog 47 #[.pointer (some ⟨A, 0, none⟩), tx] w1.drew fun e w' => ∃ out eIn rec rs, e = .returned out ∧ Noted A 4 w1.drew w' eIn ∧ Sl (· ≠ A) w' eIn [rec] ∧ Sl (· ≠ A) w' rec rs ∧ Sls (· ≠ A) w' rs ds ∧
        Sl (· ≠ A) w' out (u8s (enc s ds))) := fun tx htx => encode_any A s tx rs' ds w1.drew hA1 q1 q4 g4 htx hOt hds1 hds2
    have fin : ∀ (w2 : World) (out eIn rec : Value) (rs : List Value), Hid (Noted A 4 w1.drew w2 eIn → Sl (· ≠ A) w2 eIn [rec] → Sl (· ≠ A) w2 rec rs → Sls (· ≠ A) w2 rs ds → Sl (· ≠ A) w2 out (u8s (enc s ds)) → After A s zs (decoded s zss zs) w w2 out) := by
      intro w2 out eIn rec rs hN2 h1 h2 h3 h4
      have hg2 : w1.grownBy w2 (some A) := grownBy.ofDrew hN2.grown
      exact ⟨eIn, dIn, c, (hN2.other 3 (by decide)).trans hN.here, hD.grown hg2 (fun k hk e => hk (Option.some.inj e)), hC.grown hg2 (fun k hk e => hk (Option.some.inj e)), hN2.here, grownBy.trans hN.grown hg2, .inr ⟨d, ds, rec, rs, HD.out.symm, h1, h2, h3, h4⟩⟩
    have hR2 : ∀ w2 eIn, Hid (Noted A 4 w1.drew w2 eIn → w2.cell? ⟨R, 3, none⟩ = some (.iface 23 (.pointer (some ⟨A, 0, none⟩)))) := fun w2 eIn hN2 => cellG hN2.grown (.inr (by simpa using hAR.symm)) q3
    clear hds1 hds2 hN hC hD hOs hOt
    by_cases hcap1 : cap = 1
    · have h1 : rs' = [] := List.eq_nil_of_length_eq_zero (by omega)
      have hsl : Sl (· ≠ A) w1 (.slice (some ⟨b, off, none⟩) 0 0) rs' := by have := hT0 h1 ⟨b, off, none⟩; rw [hcap1] at this; exact this
      obtain rfl : m = 1 := by have := HM.out; rw [h1] at this; simpa using this
      have ENC' := ENC _ hsl
      subst hcap1
      clear ENC hT hT0 hsl h1 hO
      go_wp2_with fail
      go_region_held3 (fun w' => w'.cell? ⟨R, 3, none⟩ = some (.iface 23 (.pointer (some ⟨A, 0, none⟩)))) (first | assumption | go_keep)
        (first | (go_at_call 47; refine Calls.mono ENC'.out ?_; rintro e w2 ⟨out, eIn, rec, rs, rfl, hN2, hE1, hE2, hE3, hE4⟩; have q5 := (hR2 w2 eIn).out hN2))
      go_wp2
      go_ret
      exact ⟨_, rfl, (fin _ _ _ _ _).out hN2 hE1 hE2 hE3 hE4⟩
    · have hsl : Sl (· ≠ A) w1 (.slice (some ⟨b, off + 1, none⟩) (m - 1) (cap - 1)) rs' := by have := HM.out; rw [this]; exact hT
      have ENC' := ENC _ hsl
      clear ENC hT hT0 hsl hO
      go_wp2_with fail
      go_region_held3 (fun w' => w'.cell? ⟨R, 3, none⟩ = some (.iface 23 (.pointer (some ⟨A, 0, none⟩)))) (first | assumption | go_keep)
        (first | (go_at_call 47; refine Calls.mono ENC'.out ?_; rintro e w2 ⟨out, eIn, rec, rs, rfl, hN2, hE1, hE2, hE3, hE4⟩; have q5 := (hR2 w2 eIn).out hN2))
      go_wp2
      go_ret
      exact ⟨_, rfl, (fin _ _ _ _ _).out hN2 hE1 hE2 hE3 hE4⟩
end Go.Proofs.Ybulkazpu
