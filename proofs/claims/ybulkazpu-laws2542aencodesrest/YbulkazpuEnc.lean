import Derived.Test.YbulkazpuEq
import Derived.Deep.AppendLies
import Derived.Laws.Pointers
namespace Go.Proofs.Ybulkazpu
open Go.RowKit Go.Bs

/-- What Encode makes of the transactions. -/
def enc (s : Bool) (zss : List (List Int)) : List Int := (zss.map (fun z => (if s then [(z.length : Int) % 256] else []) ++ z)).flatten

theorem enc_snoc (s : Bool) (zss : List (List Int)) (z : List Int) : enc s (zss ++ [z]) = enc s zss ++ ((if s then [(z.length : Int) % 256] else []) ++ z) := by simp [enc]
theorem enc_len (s : Bool) (zss : List (List Int)) (h : ∀ z ∈ zss, z.length ≤ 1024) : (enc s zss).length ≤ zss.length * 1025 := by
  induction zss with
  | nil => simp [enc]
  | cons z zss ih =>
    have h1 := h z (by simp)
    have h2 := ih (fun y hy => h y (by simp [hy]))
    have e : enc s (z :: zss) = ((if s then [(z.length : Int) % 256] else []) ++ z) ++ enc s zss := by simp [enc]
    rw [e]
    cases s <;> simp <;> omega

/-- Two rows of different element types are two. -/
theorem owns_apart {w : World} {B B' : Nat} {e e' : TypeId} {v v' : Value} {n n' : Nat} {xs xs' : List Value} (h : w.ownsRow B e 1 v n xs) (h' : w.ownsRow B' e' 1 v' n' xs') (hne : e ≠ e') : v.ownBlock = none ∨ v.ownBlock ≠ v'.ownBlock := by
  rcases h.2 with ⟨rfl, _⟩ | ⟨g, cap, cur, rfl, _, hg, _⟩
  · exact .inl rfl
  · rcases h'.2 with ⟨rfl, _⟩ | ⟨g', cap', cur', rfl, _, hg', _⟩
    · right; simp [Value.ownBlock]
    · right
      intro e1
      simp [Value.ownBlock] at e1
      subst e1
      rw [hg] at hg'
      simp at hg'
      exact hne hg'.2

theorem owns_form {w : World} {B : Nat} {e : TypeId} {v : Value} {n : Nat} {xs : List Value} (h : w.ownsRow B e 1 v n xs) : ∃ a c, v = .slice a n c := by
  rcases h.2 with ⟨rfl, rfl⟩ | ⟨g, cap, cur, rfl, _⟩
  · exact ⟨_, _, rfl⟩
  · exact ⟨_, _, rfl⟩

theorem Sls.outgrow {p q : Nat → Prop} {w2 w3 : World} {ov ov' : Value} {rs : List Value} {zss : List (List Int)} (hS : Sls (fun b => (p b ∧ ov.ownBlock ≠ some b) ∧ q b) w2 rs zss) (hg : w2.grownBy w3 ov.ownBlock)
    (hat : ov'.ownBlock = ov.ownBlock ∨ ov'.ownBlock = some w2.heap.size) : Sls (fun b => (p b ∧ ov'.ownBlock ≠ some b) ∧ q b) w3 rs zss := by
  have h1 : Sls (fun b => ((p b ∧ ov.ownBlock ≠ some b) ∧ q b) ∧ b < w2.heap.size) w2 rs zss := hS.mono (fun b hb hl => ⟨hb, hl⟩)
  refine (h1.grown hg (fun k hk => Ne.symm hk.1.1.2)).mono (fun b hb _ => ⟨⟨hb.1.1.1, fun e => ?_⟩, hb.1.2⟩)
  rcases hat with hat | hat
  · exact hb.1.1.2 (hat ▸ e)
  · rw [hat] at e
    have := Option.some.inj e
    omega

set_option maxRecDepth 100000 in
set_option maxHeartbeats 1600000 in
theorem encode_any (A : Nat) (s : Bool) (tx : Value) (vs : List Value) (zss : List (List Int)) (w : World) (hA : A < w.heap.size)
    (c1 : w.cell? ⟨A, 1, none⟩ = some (.bool s)) (c4 : w.cell? ⟨A, 4, none⟩ = some (.slice none 0 0)) (f4 : w.frozen? ⟨A, 4, none⟩ = false)
    (hd : Sl (· ≠ A) w tx vs) (hds : Sls (· ≠ A) w vs zss) (hdl : zss.length ≤ 1024) (hdm : ∀ zs ∈ zss, zs.length ≤ 1024) :
    Calls Yba.prog 47 #[.pointer (some ⟨A, 0, none⟩), tx] w fun e w' => ∃ out eIn rec rs, e = .returned out ∧ Noted A 4 w w' eIn ∧ Sl (· ≠ A) w' eIn [rec] ∧ Sl (· ≠ A) w' rec rs ∧ Sls (· ≠ A) w' rs zss ∧
      Sl (· ≠ A) w' out (u8s (enc s zss)) := by
  obtain ⟨i0, hi, hz0, hz1, hz2⟩ := info_parts Yba.info22
  obtain ⟨j0, hj, hy0, hy1, hy2⟩ := info_parts Yba.info5
  obtain ⟨l0, hli, hx0, hx1, hx2⟩ := info_parts Yba.info26
  obtain ⟨a, cap, rfl, hcap, hmax, hcs⟩ := hd.shape
  have hvl : vs.length = zss.length := hds.1
  rw [hvl] at hcap hcs ⊢
  unfold maxLen at hmax
  clear hd
  go_enter Yba.func47, Yba.ntmps47
  go_wp2
  go_loopw [5, 6, 7] (fun rv ov si wr => ∃ (k : Nat) (rs : List Value), k ≤ zss.length ∧ si = .int .i64 k ∧ wr.ownsRow w.heap.size 22 1 rv k rs ∧
      Sls (fun b => (w.heap.size ≤ b ∧ ov.ownBlock ≠ some b) ∧ rv.ownBlock ≠ some b) wr rs (zss.take k) ∧ wr.ownsRow w.heap.size 5 1 ov (enc s (zss.take k)).length (u8s (enc s (zss.take k))) ∧ w.grownBy wr none)
    (fun _ _ si _ => zss.length - (intOf si).toNat)
  case atStart => exact ⟨0, [], Nat.zero_le _, rfl, World.ownsRow_nil _ _ _ _, Sls.nil _ _, by simpa [enc, u8s] using World.ownsRow_nil w w.heap.size 5 1, World.grownBy.refl _ _⟩
  case round =>
    obtain ⟨k, rs, hk, rfl, hown, hrs, hout, hgr⟩ := hrel
    have hsz := hgr.size
    have e1 := cellG hgr (.inl rfl) c1
    by_cases hlt : k < zss.length
    · obtain ⟨b, off, rfl, _, hb, hc⟩ := hcs (by omega)
      have hltv : k < vs.length := by omega
      obtain ⟨r, HR⟩ : ∃ r, Hid (r = vs[k]) := ⟨vs[k], (rfl : vs[k] = vs[k])⟩
      obtain ⟨z, HZ⟩ : ∃ z, Hid (z = zss[k]) := ⟨zss[k], (rfl : zss[k] = zss[k])⟩
      have hcx0 : w.cell? ⟨b, off + k, none⟩ = some r := by rw [HR.out]; exact hc k _ (List.getElem?_eq_getElem hltv)
      have hr0 : Sl (· ≠ A) w r (u8s z) := hds.2 k r z (by rw [HR.out]; exact List.getElem?_eq_getElem hltv) (by rw [HZ.out]; exact List.getElem?_eq_getElem hlt)
      have hr : Sl (· ≠ A) wr r (u8s z) := hr0.grown hgr (fun _ _ => by simp)
      have hzm : z.length ≤ 1024 := hdm z (by rw [HZ.out]; exact List.getElem_mem _)
      have HL : Hid ((enc s (zss.take k)).length ≤ 1024 * 1025) := by
        have := enc_len s (zss.take k) (fun y hy => hdm y (List.mem_of_mem_take hy))
        have h2 : (zss.take k).length ≤ k := List.length_take_le _ _
        have h3 : (zss.take k).length * 1025 ≤ 1024 * 1025 := Nat.mul_le_mul_right _ (by omega)
        exact Nat.le_trans this h3
      obtain ⟨ra, rcap, HF⟩ : ∃ ra rcap, Hid (r = .slice ra z.length rcap) := by
        obtain ⟨ra, rcap, e, _⟩ := hr.shape
        exact ⟨ra, rcap, by rw [u8s_length] at e; exact e⟩
      rw [HF.out] at hcx0
      have hcx := cellG hgr (.inl rfl) hcx0
      have HT : Hid (zss.take (k + 1) = zss.take k ++ [z]) := by rw [HZ.out]; exact List.take_succ_eq_append_getElem hlt
      obtain ⟨E, HE⟩ : ∃ E, Hid (E = enc s (zss.take k)) := ⟨_, rfl⟩
      rw [← HE.out] at HL hout
      clear hc hcs hdm
      go_wp2_with fail
      refine (copy_any (· ≠ A) _ z wr (by have := hr; rw [HF.out] at this; exact this) (by omega)).mono ?_
      rintro e w1 ⟨rfl, hs1, hg1⟩
      have hsz1 := hg1.size
      have hown1 := hown.kept hg1 (by cases hv : Value.ownBlock _ <;> simp)
      have hout1 := hout.kept hg1 (by cases hv : Value.ownBlock _ <;> simp)
      go_wp2_with (at_builtin; refine wpList_append_lies _ rfl (.tmp 14) _ 26 rfl w.heap.size 22 i0 _ 1 24 Yba.underlying26 hi hz0 hz1 hz2 rfl (by omega) _ k rs rfl (hown1.alloc _) ⟨w1.heap.size, 0, none⟩ 1 1 [_] rfl rfl (news1 _ _ _) (by simp [Value.oneCell']) (by omega) (by unfold maxLen; omega) (by omega) (by simp; omega) (w1.heap.size + 1) (by simp) ?_)
      intro g cap' w2 hown2 hgrow2 hat2 hlt2
      have hgw2 : w.grownBy w2 none := grownBy.inner (grownBy.alloc (grownBy.trans hgr hg1) _) hgrow2 (fun i hi => (hown.lt i hi).1)
      have hout2 := (hout1.alloc _).kept hgrow2 (owns_apart hout1 hown1 (by decide))
      have hS2 := Sls.push hrs (fun j hj => (hown.lt j hj).2) (fun b hb => ⟨by omega, fun e => by have := (hout.lt b e).2; omega⟩) hg1 hs1 hgrow2 hat2
      rw [← HT.out] at hS2
      have e2 := cellG hgw2 (.inl rfl) c1
      have hcx2 := cellG hgw2 (.inl rfl) hcx0
      have hr2 : Sl (· ≠ A) w2 (.slice ra z.length rcap) (u8s z) := by have := hr0; rw [HF.out] at this; exact this.grown hgw2 (fun _ _ => by simp)
      have hsz2 := hgw2.size
      clear hown hrs hout hs1 hg1 hown1 hout1 hgrow2 hat2 e1 hcx hr hgr
      cases s with
      | false =>
        go_wp2_with (at_builtin; refine wpList_app _ rfl (.tmp 35) _ 22 rfl w.heap.size 5 j0 _ 1 Yba.underlying22 hj hy0 hy1 hy2 rfl _ E.length (u8s E) rfl hout2 (· ≠ A) _ (u8s z) rfl hr2 (u8s_one z) (by have := HL.out; rw [u8s_length]; unfold maxLen; omega) (by have := HL.out; rw [u8s_length]; omega) hsz2 ?_)
        intro ov' w3 hout3 hgrow3 hat3
        go_wp2
        go_roundw
        case rel =>
          have he : enc false (zss.take (k + 1)) = E ++ z := by rw [HT.out, enc_snoc, HE.out]; simp
          refine ⟨k + 1, _, by omega, by go_num, hown2.kept hgrow3 (owns_apart hown2 hout2 (by decide)), Sls.outgrow hS2 hgrow3 hat3, ?_, grownBy.inner hgw2 hgrow3 (fun i hi => (hout2.lt i hi).1)⟩
          rw [he, u8s_append, List.length_append]
          simpa [u8s_length] using hout3
        case measure => simp [intOf]; omega
      | true =>
        go_wp2_with (at_builtin; refine wpList_append_lies _ rfl (.tmp 26) _ 22 rfl w.heap.size 5 j0 _ 1 1 Yba.underlying22 hj hy0 hy1 hy2 rfl (by omega) _ E.length (u8s E) rfl (hout2.alloc _) ⟨w2.heap.size, 0, none⟩ 1 1 [_] rfl rfl (news1 _ _ _) (by simp [Value.oneCell']) (by omega) (by have := HL.out; unfold maxLen; omega) (by have := HL.out; omega) (by simp; omega) (w2.heap.size + 1) (by simp) ?_)
        intro g3 cap3 w3 hout3 hgrow3 hat3 hlt3
        have hgw3 : w.grownBy w3 none := grownBy.inner (grownBy.alloc hgw2 _) hgrow3 (fun i hi => (hout2.lt i hi).1)
        have hown3 := (hown2.alloc _).kept hgrow3 (owns_apart hown2 hout2 (by decide))
        have hS3 := Sls.outgrow (ov' := .slice (some ⟨g3, 0, none⟩) (E.length + 1) cap3) (hS2.grown (World.grownBy_alloc _ _ none) (fun _ _ => by simp)) hgrow3 (by rcases hat3 with h | h; exact .inl h.symm; exact .inr (by simp [Value.ownBlock, h]))
        have hcx3 := cellG hgw3 (.inl rfl) hcx0
        have hr3 : Sl (· ≠ A) w3 (.slice ra z.length rcap) (u8s z) := by have := hr0; rw [HF.out] at this; exact this.grown hgw3 (fun _ _ => by simp)
        have hsz3 := hgw3.size
        clear hown2 hS2 hout2 hgrow3 hat3 hcx2 hr2 e2
        go_wp2_with (at_builtin; refine wpList_app _ rfl (.tmp 35) _ 22 rfl w.heap.size 5 j0 _ 1 Yba.underlying22 hj hy0 hy1 hy2 rfl _ (E.length + 1) _ rfl hout3 (· ≠ A) _ (u8s z) rfl hr3 (u8s_one z) (by have := HL.out; rw [u8s_length]; unfold maxLen; omega) (by have := HL.out; rw [u8s_length]; omega) hsz3 ?_)
        intro ov' w4 hout4 hgrow4 hat4
        go_wp2
        go_roundw
        case rel =>
          have he : enc true (zss.take (k + 1)) = E ++ [(z.length : Int) % 256] ++ z := by rw [HT.out, enc_snoc, HE.out]; simp
          refine ⟨k + 1, _, by omega, by go_num, hown3.kept hgrow4 (owns_apart hown3 hout3 (by decide)), Sls.outgrow hS3 hgrow4 hat4, ?_, grownBy.inner hgw3 hgrow4 (fun i hi => (hout3.lt i hi).1)⟩
          rw [he, u8s_append, u8s_append, List.length_append, List.length_append]
          simpa [u8s_length, u8s] using hout4
        case measure => simp [intOf]; omega
    · have e4 := cellG hgr (.inl rfl) c4
      have g4 := frozG hgr (.inl rfl) hA f4
      have hAr : A < wr.heap.size := by omega
      have hkn : k = zss.length := by omega
      subst hkn
      rw [List.take_of_length_le (Nat.le_refl _)] at hrs hout
      obtain ⟨ra, rc, rfl⟩ := owns_form hown
      obtain ⟨oa, oc, rfl⟩ := owns_form hout
      go_wp2_with (at_builtin; refine wpList_append_lies _ rfl _ _ 27 rfl w.heap.size 26 l0 _ 1 24 Yba.underlying27 hli hx0 hx1 hx2 rfl (by omega) _ 0 [] rfl (World.ownsRow_nil _ _ _ _) ⟨wr.heap.size, 0, none⟩ 1 1 [_] rfl rfl (news1 _ _ _) (by simp [Value.oneCell']) (by omega) (by unfold maxLen; omega) (by omega) (by simp; omega) (wr.heap.size + 1) (by simp) ?_)
      intro g cap' w2 hown2 hgrow2 hat2 hlt2
      have hgw : wr.grownBy w2 none := grownBy.trans (World.grownBy_alloc _ _ none) hgrow2
      have e5 := cellG hgw (.inl rfl) e4
      have g5 := frozG hgw (.inl rfl) hAr g4
      go_wp2
      go_ret
      refine ⟨_, _, _, rs, rfl, Noted.store _ hA (grownBy.trans hgr hgw) e5, ((Sl.ofOwns hown2).mono (fun b hb _ => ?_)).setCell (a := ⟨A, 4, none⟩) (by simp) _, (((Sl.ofOwns hown).mono (ok' := (· ≠ A)) (fun b hb _ => ?_)).grown hgw (fun _ _ => by simp)).setCell (a := ⟨A, 4, none⟩) (by simp) _, ?_, (((Sl.ofOwns hout).mono (ok' := (· ≠ A)) (fun b hb _ => ?_)).grown hgw (fun _ _ => by simp)).setCell (a := ⟨A, 4, none⟩) (by simp) _⟩
      · have := hb.2; omega
      · have := hb.2; omega
      · refine ((hrs.mono (ok' := (· ≠ A)) (fun b hb _ => ?_)).grown hgw (fun _ _ => by simp)).kept (by simp [World.setCell]) (fun i hi _ => Below.heap_setCell _ _ _ _ hi)
        have := hb.1.1; omega
      · have := hb.2; omega
end Go.Proofs.Ybulkazpu
