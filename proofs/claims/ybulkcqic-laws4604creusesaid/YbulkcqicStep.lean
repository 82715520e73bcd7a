/-
  The calls of Reuse: alloc and release on one page.
-/
import Derived.Test.YbulkcqicOne
import Derived.Test.YbulkcqicHeld
import Derived.Test.YbulkcqicNew
namespace Go.Proofs.Ybulkcqic
open Go.RowKit

/-- What stands behind a call of the slabs. -/
def Stand (U : Nat → Prop) (sb : Nat) (Q : St → Prop) (w : World) : Prop := ∃ A S, A.sb = sb ∧ R U A S w ∧ S.w 1 = 0 ∧ Q S

/-- No block yet. -/
structure Fr (S : St) (c : Nat) : Prop where
  nb : S.nb = 0
  par : S.w (3 + c) = -1
  cpo : ∀ j, j < 88 → S.w (91 + j) = 0
  fr : S.w 179 = -1
  fp : S.w 180 = 0
  hb : S.w 181 = 0
theorem Fr.mu {S : St} {c : Nat} (h : Fr S c) (v : Int) : Fr (setH S 1 v) c where
  nb := h.nb
  par := (setH_w _ _ _ _ (by omega)).trans h.par
  cpo := fun j hj => (setH_w _ _ _ _ (by omega)).trans (h.cpo j hj)
  fr := (setH_w _ _ _ _ (by omega)).trans h.fr
  fp := (setH_w _ _ _ _ (by omega)).trans h.fp
  hb := (setH_w _ _ _ _ (by omega)).trans h.hb
theorem Fr_new (c : Nat) (hc : c < 64) : Fr (St0 88) c := by
  have e : ∀ i, (St0 88).w i = if i = 179 then -1 else if 3 ≤ i ∧ i < 3 + 88 then -1 else 0 := fun i => rfl
  refine ⟨rfl, ?_, fun j hj => ?_, ?_, ?_, ?_⟩
  · rw [e, if_neg (by omega), if_pos (by omega)]
  · rw [e, if_neg (by omega), if_neg (by omega)]
  · rw [e, if_pos rfl]
  · rw [e, if_neg (by omega), if_neg (by omega)]
  · rw [e, if_neg (by omega), if_neg (by omega)]

/-- What handing out the next chunk of page 0 asks. -/
structure NextCh (S : St) (c sz us hd rt : Nat) : Prop where
  one : One S c sz us hd rt
  lt : us < 16384 / sz
  hh : hd ≤ us + 1
  hr : rt ≤ us + 1
  b : rt ≠ 0 → S.d 0 ((rt - 1) * sz) = 0 ∧ S.d 0 ((rt - 1) * sz + 1) = 0
  r0 : rt = 0 → hd = us

/-- alloc, where page 0 is what it takes. -/
theorem alloc_core {U : Nat → Prop} {A : Ad} {S : St} {w : World} (h : R U A S w) (c sz us hd rt : Nat) (hc : c < 64) (hz : sz = 8 * (c + 1)) (hm : S.w 1 = 0) (hnb : S.nb ≤ 1000)
    (h1 : (setH S 1 1).w (3 + c) = -1 ∨ ∃ q : Nat, (setH S 1 1).w (3 + c) = q)
    (h2 : (setH S 1 1).w (3 + c) = -1 → (setH S 1 1).w 179 ≠ -1 → ∃ q : Nat, (setH S 1 1).w 179 = q ∧ TakeOk (setH S 1 1) q)
    (h3 : (setH S 1 1).w (3 + c) = -1 → (setH S 1 1).w 179 = -1 → ∀ n, n ≤ (setH S 1 1).nb → (n < (setH S 1 1).nb → (setH S 1 1).live n = false) → TakeOk (freeS (setH S 1 1) n) (n * 8))
    (h4 : ∀ S' p, Took (setH S 1 1) c S' p → p = 0 ∧ NextCh S' c sz us hd rt) :
    Calls Yba.prog 6 #[.pointer (some ⟨A.sb, 0, none⟩), .int .i64 (sz : Int)] w fun e w' =>
      e = .returned (.int .u64 (((if rt = 0 then hd else rt - 1) * sz : Nat) : Int)) ∧ Stand U A.sb (fun S' => One S' c sz (us + 1) (if rt = 0 then hd + 1 else hd) 0) w' ∧ Keep U w w' := by
  have hn : ∀ S' p, Took (setH S 1 1) c S' p → HandOk S' c p sz := fun S' p ht => by
    obtain ⟨rfl, hx⟩ := h4 S' p ht
    exact (hx.one.hand hc hz hx.lt hx.hh hx.hr hx.b hx.r0).1
  refine (alloc_any h c sz hc hz hm (setH S 1 1) rfl hnb h1 h2 h3 hn).mono ?_
  rintro e w' ⟨A', S', p, hA, ht, rfl, hR, hK⟩
  obtain ⟨rfl, hx⟩ := h4 S' p ht
  obtain ⟨_, hch, ho, _⟩ := hx.one.hand hc hz hx.lt hx.hh hx.hr hx.b hx.r0
  refine ⟨?_, ⟨A', _, hA, hR, setH_same _ _ _, ho.mu 0⟩, hK⟩
  rw [hch, Nat.zero_mul, Nat.zero_add]

theorem next_zero {S : St} {c sz : Nat} (hc : c < 64) (hz : sz = 8 * (c + 1)) (h : Zero S c) : NextCh (takeS S c 0) c sz 0 0 0 := by
  have hcap := cap_ge c sz hc hz
  exact ⟨h.take hc hz, by omega, by omega, by omega, fun e => absurd rfl e, fun _ => rfl⟩

/-- The first alloc. -/
theorem alloc_new {U : Nat → Prop} {A : Ad} {S : St} {w : World} (h : R U A S w) (c sz : Nat) (hc : c < 64) (hz : sz = 8 * (c + 1)) (hm : S.w 1 = 0) (hf0 : Fr S c) :
    Calls Yba.prog 6 #[.pointer (some ⟨A.sb, 0, none⟩), .int .i64 (sz : Int)] w fun e w' =>
      e = .returned (.int .u64 0) ∧ Stand U A.sb (fun S' => One S' c sz 1 1 0) w' ∧ Keep U w w' := by
  have hf := hf0.mu 1
  have hz0 : Zero (freeS (setH S 1 1) 0) c := zero_of_free hc hf.nb hf.par hf.cpo hf.fp hf.hb
  refine (alloc_core h c sz 0 0 0 hc hz hm (by rw [hf0.nb]; omega) (.inl hf.par) (fun _ h2 => absurd hf.fr h2) (fun _ _ n hn _ => ?_) (fun S' p ht => ?_)).mono ?_
  · obtain rfl : n = 0 := by rw [hf.nb] at hn; omega
    exact hz0.takeOk
  · rcases ht with ⟨h1, _⟩ | ⟨_, h2, _⟩ | ⟨_, _, n, hn, _, rfl, rfl⟩
    · rw [hf.par] at h1; omega
    · rw [hf.fr] at h2; omega
    · obtain rfl : n = 0 := by rw [hf.nb] at hn; omega
      exact ⟨rfl, next_zero hc hz hz0⟩
  · rintro e w' ⟨rfl, hs, hK⟩
    refine ⟨?_, hs, hK⟩
    rw [if_pos rfl, Nat.zero_mul]
    rfl
/-- alloc where the eight pages are free. -/
theorem alloc_zero {U : Nat → Prop} {A : Ad} {S : St} {w : World} (h : R U A S w) (c sz : Nat) (hc : c < 64) (hz : sz = 8 * (c + 1)) (hm : S.w 1 = 0) (hz0 : Zero S c) :
    Calls Yba.prog 6 #[.pointer (some ⟨A.sb, 0, none⟩), .int .i64 (sz : Int)] w fun e w' =>
      e = .returned (.int .u64 0) ∧ Stand U A.sb (fun S' => One S' c sz 1 1 0) w' ∧ Keep U w w' := by
  have hf := hz0.mu 1
  refine (alloc_core h c sz 0 0 0 hc hz hm (by rw [hz0.nb]; omega) (.inl hf.par) (fun _ _ => ⟨0, hf.fr, hf.takeOk⟩) (fun _ h2 => absurd h2 (by rw [hf.fr]; omega)) (fun S' p ht => ?_)).mono ?_
  · rcases ht with ⟨h1, _⟩ | ⟨_, h2, rfl⟩ | ⟨_, h2, _⟩
    · rw [hf.par] at h1; omega
    · rw [hf.fr] at h2
      obtain rfl : p = 0 := by omega
      exact ⟨rfl, next_zero hc hz hf⟩
    · rw [hf.fr] at h2; omega
  · rintro e w' ⟨rfl, hs, hK⟩
    refine ⟨?_, hs, hK⟩
    rw [if_pos rfl, Nat.zero_mul]
    rfl
/-- alloc out of page 0. -/
theorem alloc_next {U : Nat → Prop} {A : Ad} {S : St} {w : World} (h : R U A S w) (c sz us hd rt : Nat) (hc : c < 64) (hz : sz = 8 * (c + 1)) (hm : S.w 1 = 0) (hn : NextCh S c sz us hd rt) :
    Calls Yba.prog 6 #[.pointer (some ⟨A.sb, 0, none⟩), .int .i64 (sz : Int)] w fun e w' =>
      e = .returned (.int .u64 (((if rt = 0 then hd else rt - 1) * sz : Nat) : Int)) ∧ Stand U A.sb (fun S' => One S' c sz (us + 1) (if rt = 0 then hd + 1 else hd) 0) w' ∧ Keep U w w' := by
  have ho := hn.one.mu 1
  have hp : (setH S 1 1).w (3 + c) = 0 := by rw [ho.par, if_neg (by have := hn.lt; omega)]
  refine alloc_core h c sz us hd rt hc hz hm (by rw [hn.one.nb]; omega) (.inr ⟨0, hp⟩) (fun h1 => absurd h1 (by rw [hp]; omega)) (fun h1 => absurd h1 (by rw [hp]; omega)) (fun S' p ht => ?_)
  rcases ht with ⟨h1, rfl⟩ | ⟨h1, _⟩ | ⟨h1, _⟩
  · rw [hp] at h1
    exact ⟨by omega, ho, hn.lt, hn.hh, hn.hr, hn.b, hn.r0⟩
  · rw [hp] at h1; omega
  · rw [hp] at h1; omega

/-- release of a chunk of page 0. -/
theorem release_one {U : Nat → Prop} {A : Ad} {S : St} {w : World} (h : R U A S w) (c sz us hd rt ch : Nat) (hc : c < 64) (hz : sz = 8 * (c + 1)) (hm : S.w 1 = 0) (ho : One S c sz us hd rt) (hus : 0 < us) (hus1 : us ≤ 16384 / sz) (hrt : rt ≤ 16384 / sz) (hch : ch < 16384 / sz) :
    Calls Yba.prog 7 #[.pointer (some ⟨A.sb, 0, none⟩), .int .u64 ((ch * sz : Nat) : Int), .int .i64 (sz : Int)] w fun e w' =>
      e = .returned (.tuple #[]) ∧ Stand U A.sb (fun S' => if us = 1 then Zero S' c else One S' c sz (us - 1) hd (ch + 1) ∧ (rt = 0 → S'.d 0 (ch * sz) = 0 ∧ S'.d 0 (ch * sz + 1) = 0)) w' ∧ Keep U w w' := by
  have ho1 := ho.mu 1
  have h12 := ho1.rel12 (ch := ch) hc hus hus1
  have h4 := h12.1.rel4Ok hc
  refine (release_any h c 0 ch sz (ch * sz) hc (by omega) (by omega) (by omega) hm (setH S 1 1) rfl (ho1.relOk hc hz hus hus1 hrt hch) (fun _ => h4.1)).mono ?_
  rintro e w' ⟨rfl, A', hA, hR, hK⟩
  refine ⟨rfl, ⟨A', _, hA, hR, setH_same _ _ _, ?_⟩, hK⟩
  simp only []
  by_cases e1 : us = 1
  · rw [if_pos e1]
    have e : relS (setH S 1 1) c 0 ch sz = rel4 (rel2 (rel1 (setH S 1 1) c 0 sz) 0 ch sz) c 0 := by
      unfold relS
      simp only []
      rw [if_pos (by rw [h12.1.p1]; omega)]
    rw [e]
    exact h4.2.mu 0
  · rw [if_neg e1]
    have e : relS (setH S 1 1) c 0 ch sz = rel2 (rel1 (setH S 1 1) c 0 sz) 0 ch sz := by
      unfold relS
      simp only []
      rw [if_neg (by rw [h12.1.p1]; omega)]
    rw [e]
    refine ⟨h12.1.mu 0, fun hr => ?_⟩
    show (rel2 (rel1 (setH S 1 1) c 0 sz) 0 ch sz).d 0 (ch * sz) = 0 ∧ (rel2 (rel1 (setH S 1 1) c 0 sz) 0 ch sz).d 0 (ch * sz + 1) = 0
    rw [h12.2, h12.2, if_neg (by omega), if_pos rfl, if_pos rfl, hr]
    exact ⟨rfl, rfl⟩

theorem cnt_zero {S : St} {c : Nat} (h : Zero S c) : ∀ n, n ≤ 88 → cnt S n = 0 := by
  intro n hn
  induction n with
  | zero => rfl
  | succ k ih =>
    unfold cnt
    rw [ih (by omega), h.cpo k (by omega)]
    rfl

end Go.Proofs.Ybulkcqic
