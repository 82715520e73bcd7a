/-
  The plain law of Reuse: one page of one block.
-/
import Derived.Test.YbulkcqicView
namespace Go.Proofs.Ybulkcqic
open Go.RowKit

/-- Page 0 is size c's: us chunks of it in use, hd handed out, rt given back last. -/
structure One (S : St) (c sz us hd rt : Nat) : Prop where
  nb : S.nb = 1
  lv : S.live 0 = true
  par : S.w (3 + c) = if us = 16384 / sz then -1 else 0
  cp : S.w (91 + c) = 1
  cpo : ∀ j, j < 88 → j ≠ c → S.w (91 + j) = 0
  fr : S.w 179 = 1
  fp : S.w 180 = 7
  hb : S.w 181 = 1
  bf : S.b 0 49 = 7
  p0 : getP S 0 0 = c
  p1 : getP S 0 1 = us
  p2 : getP S 0 2 = hd
  p3 : getP S 0 3 = rt
  p4 : getP S 0 4 = -1
  p5 : getP S 0 5 = -1
/-- All eight pages are free. -/
structure Zero (S : St) (c : Nat) : Prop where
  nb : S.nb = 1
  lv : S.live 0 = true
  par : S.w (3 + c) = -1
  cpo : ∀ j, j < 88 → S.w (91 + j) = 0
  fr : S.w 179 = 0
  fp : S.w 180 = 8
  hb : S.w 181 = 1
  bf : S.b 0 49 = 8
  p4 : getP S 0 4 = -1
  p5 : getP S 0 5 = 1

theorem setH_w (S : St) (i j : Nat) (v : Int) (h : j ≠ i) : (setH S i v).w j = S.w j := by
  show (if j = i then v else S.w j) = _
  rw [if_neg h]
theorem setH_same (S : St) (i : Nat) (v : Int) : (setH S i v).w i = v := by
  show (if i = i then v else S.w i) = _
  rw [if_pos rfl]

theorem w64 (x : Int) (h : -9000000000000000000 ≤ x ∧ x ≤ 9000000000000000000) : wrap64 x = x := by
  unfold wrap64
  omega
theorem w32 (x : Int) (h : -2000000000 ≤ x ∧ x ≤ 2000000000) : wrap32 x = x := by
  unfold wrap32
  omega
theorem One.mu {S : St} {c sz us hd rt : Nat} (h : One S c sz us hd rt) (v : Int) : One (setH S 1 v) c sz us hd rt where
  nb := h.nb
  lv := h.lv
  par := (setH_w _ _ _ _ (by omega)).trans h.par
  cp := (setH_w _ _ _ _ (by omega)).trans h.cp
  cpo := fun j hj hc => (setH_w _ _ _ _ (by omega)).trans (h.cpo j hj hc)
  fr := (setH_w _ _ _ _ (by omega)).trans h.fr
  fp := (setH_w _ _ _ _ (by omega)).trans h.fp
  hb := (setH_w _ _ _ _ (by omega)).trans h.hb
  bf := h.bf
  p0 := h.p0
  p1 := h.p1
  p2 := h.p2
  p3 := h.p3
  p4 := h.p4
  p5 := h.p5
theorem Zero.mu {S : St} {c : Nat} (h : Zero S c) (v : Int) : Zero (setH S 1 v) c where
  nb := h.nb
  lv := h.lv
  par := (setH_w _ _ _ _ (by omega)).trans h.par
  cpo := fun j hj => (setH_w _ _ _ _ (by omega)).trans (h.cpo j hj)
  fr := (setH_w _ _ _ _ (by omega)).trans h.fr
  fp := (setH_w _ _ _ _ (by omega)).trans h.fp
  hb := (setH_w _ _ _ _ (by omega)).trans h.hb
  bf := h.bf
  p4 := h.p4
  p5 := h.p5

theorem cap_ge (c sz : Nat) (hc : c < 64) (hz : sz = 8 * (c + 1)) : 32 ≤ 16384 / sz ∧ 16384 / sz ≤ 2048 ∧ 16384 / sz * sz ≤ 16384 := by
  refine ⟨?_, ?_, Nat.div_mul_le_self _ _⟩
  · rw [Nat.le_div_iff_mul_le (by omega)]
    omega
  · exact Nat.le_trans (Nat.div_le_div_left (show 8 ≤ sz by omega) (by omega)) (Nat.le_refl _)

/-- A block where there was none. -/
theorem zero_of_free {S : St} {c : Nat} (hc : c < 64) (hnb : S.nb = 0) (hp : S.w (3 + c) = -1) (hcp : ∀ j, j < 88 → S.w (91 + j) = 0) (h0 : S.w 180 = 0) (h1 : S.w 181 = 0) : Zero (freeS S 0) c := by
  have hk : ∀ k, (linkN (newS S 0) 0 k).b 0 49 = 8 := fun k => by
    induction k with
    | zero => rfl
    | succ k ih => exact (linkS_fr _ _ _ _).trans ih
  have hw : ∀ j, j ≠ 179 → (linkN (newS S 0) 0 8).w j = S.w j := fun j hj => linkN_w _ _ _ _ hj
  have h7 : (linkN (newS S 0) 0 7).w 179 = 1 := linkN_hd _ _ _
  have h8 : (linkN (newS S 0) 0 8).w 179 = 0 := linkN_hd _ _ _
  have hpv := linkS_pv (linkN (newS S 0) 0 7) 179 0 0
  refine ⟨?_, ?_, ?_, fun j hj => ?_, ?_, ?_, ?_, hk 8, ?_, ?_⟩
  · show (linkN (newS S 0) 0 8).nb = 1
    rw [(linkN_nb _ _ _).1]
    show (if 0 = S.nb then S.nb + 1 else S.nb) = 1
    rw [if_pos hnb.symm, hnb]
  · show (linkN (newS S 0) 0 8).live 0 = true
    rw [(linkN_nb _ _ _).2]
    rfl
  · rw [freeS_w _ _ _ (by omega), hp]
  · rw [freeS_w _ _ _ (by omega), hcp j hj]
  · unfold freeS
    simp only []
    rw [setH_w _ 181 179 _ (by omega), setH_w _ 180 179 _ (by omega), h8]
  · unfold freeS
    simp only []
    rw [setH_w _ 181 180 _ (by omega), setH_same, hw 180 (by omega), h0, w64 _ (by omega)]
    rfl
  · unfold freeS
    simp only []
    rw [setH_same, hw 181 (by omega), h1, w64 _ (by omega)]
    rfl
  · show getP (linkS (linkN (newS S 0) 0 7) 179 0) 0 4 = -1
    rw [hpv 4 (by omega) (by omega) (by rw [h7]; omega), if_pos rfl, if_pos rfl]
  · show getP (linkS (linkN (newS S 0) 0 7) 179 0) 0 5 = 1
    rw [hpv 5 (by omega) (by omega) (by rw [h7]; omega), if_pos rfl, if_neg (by omega), if_pos rfl, h7]

theorem Zero.live {S : St} {c : Nat} (h : Zero S c) (q : Nat) (hq : q < 8) : Live S q := by
  have e : q / 8 = 0 := by omega
  exact ⟨by rw [e, h.nb]; omega, by rw [e]; exact h.lv⟩
theorem One.live {S : St} {c sz us hd rt : Nat} (h : One S c sz us hd rt) (q : Nat) (hq : q < 8) : Live S q := by
  have e : q / 8 = 0 := by omega
  exact ⟨by rw [e, h.nb]; omega, by rw [e]; exact h.lv⟩

theorem Zero.takeOk {S : St} {c : Nat} (h : Zero S c) : TakeOk S 0 := by
  refine ⟨h.live 0 (by omega), by omega, .inl h.p4, .inr ⟨1, ?_, h.live 1 (by omega), by omega⟩⟩
  unfold unlink1
  rw [if_pos h.p4, getP_setH, h.p5]
  rfl

theorem getP_setPage (S : St) (p c q f : Nat) (hf : f < 6) : getP (setPage S p c) q f = if q = p then (if f = 0 then (c : Int) else if f ≤ 3 then 0 else -1) else getP S q f := by
  unfold setPage
  rw [getP_setP _ _ _ _ _ _ hf (by omega), getP_setP _ _ _ _ _ _ hf (by omega), getP_setP _ _ _ _ _ _ hf (by omega), getP_setP _ _ _ _ _ _ hf (by omega), getP_setP _ _ _ _ _ _ hf (by omega), getP_setP _ _ _ _ _ _ hf (by omega)]
  by_cases hq : q = p
  · obtain h | h | h | h | h | h : f = 0 ∨ f = 1 ∨ f = 2 ∨ f = 3 ∨ f = 4 ∨ f = 5 := by omega
    all_goals simp [hq, h]
  · simp [hq]

/-- The page taken: none of its chunks in use yet. -/
theorem Zero.take {S : St} {c sz : Nat} (h : Zero S c) (hc : c < 64) (hz : sz = 8 * (c + 1)) : One (takeS S c 0) c sz 0 0 0 := by
  have hcap := cap_ge c sz hc hz
  have hw : (setPage (setH (take1 S 0) (91 + c) (wrap32 ((take1 S 0).w (91 + c) + 1))) 0 c).w (3 + c) = -1 := by
    show (if 3 + c = 91 + c then _ else if 3 + c = 180 then _ else (unlinkS S 179 0).w (3 + c)) = _
    rw [if_neg (by omega), if_neg (by omega), unlinkS_w _ _ _ _ (by omega), h.par]
  have hg : ∀ f, f < 6 → getP (takeS S c 0) 0 f = if f = 0 then (c : Int) else if f ≤ 3 then 0 else -1 := fun f hf => by
    show getP (linkS (setPage (setH (take1 S 0) (91 + c) (wrap32 ((take1 S 0).w (91 + c) + 1))) 0 c) (3 + c) 0) 0 f = _
    rw [linkS_pv _ _ _ _ _ hf (.inl hw) (by rw [hw]; omega), if_pos rfl, hw, getP_setPage _ _ _ _ _ hf, if_pos rfl]
    obtain h | h | h | h | h | h : f = 0 ∨ f = 1 ∨ f = 2 ∨ f = 3 ∨ f = 4 ∨ f = 5 := by omega
    all_goals simp [h]
  have h1 : ∀ j, j ≠ 3 + c → (takeS S c 0).w j = if j = 91 + c then wrap32 ((take1 S 0).w (91 + c) + 1) else (take1 S 0).w j := fun j hj => by
    show (linkS (setPage (setH (take1 S 0) (91 + c) (wrap32 ((take1 S 0).w (91 + c) + 1))) 0 c) (3 + c) 0).w j = _
    rw [linkS_w _ _ _ _ hj]
    rfl
  have h2 : ∀ j, (take1 S 0).w j = if j = 180 then wrap64 ((unlinkS S 179 0).w 180 - 1) else (unlinkS S 179 0).w j := fun j => rfl
  refine ⟨?_, ?_, ?_, ?_, fun j hj hne => ?_, ?_, ?_, ?_, ?_, hg 0 (by omega), hg 1 (by omega), hg 2 (by omega), hg 3 (by omega), hg 4 (by omega), hg 5 (by omega)⟩
  · show (linkS _ _ _).nb = 1
    rw [(linkS_nb _ _ _).1]
    show (unlinkS S 179 0).nb = 1
    rw [(unlinkS_nb _ _ _).1, h.nb]
  · show (linkS _ _ _).live 0 = true
    rw [(linkS_nb _ _ _).2]
    show (unlinkS S 179 0).live 0 = true
    rw [(unlinkS_nb _ _ _).2, h.lv]
  · rw [if_neg (by omega)]
    exact linkS_hd _ _ _
  · rw [h1 _ (by omega), if_pos rfl, h2, if_neg (by omega), unlinkS_w _ _ _ _ (by omega), h.cpo c (by omega), w32 _ (by omega)]
    rfl
  · rw [h1 _ (by omega), if_neg (by omega), h2, if_neg (by omega), unlinkS_w _ _ _ _ (by omega), h.cpo j hj]
  · rw [h1 _ (by omega), if_neg (by omega), h2, if_neg (by omega), unlinkS_hd, if_pos h.p4, h.p5]
  · rw [h1 _ (by omega), if_neg (by omega), h2, if_pos rfl, unlinkS_w _ _ _ _ (by omega), h.fp, w64 _ (by omega)]
    rfl
  · rw [h1 _ (by omega), if_neg (by omega), h2, if_neg (by omega), unlinkS_w _ _ _ _ (by omega), h.hb]
  · show (linkS _ _ _).b 0 49 = 7
    rw [linkS_fr]
    show (setPage _ 0 c).b 0 49 = 7
    unfold setPage
    rw [setP_fr _ _ _ _ _ (by omega), setP_fr _ _ _ _ _ (by omega), setP_fr _ _ _ _ _ (by omega), setP_fr _ _ _ _ _ (by omega), setP_fr _ _ _ _ _ (by omega), setP_fr _ _ _ _ _ (by omega)]
    show (take1 S 0).b 0 49 = 7
    unfold take1
    simp only []
    rw [setF_fr, if_pos rfl]
    show wrap64 ((unlinkS S 179 0).b 0 49 - 1) = 7
    rw [unlinkS_fr, h.bf, w64 _ (by omega)]
    rfl

theorem hand1_w (S : St) (p sz : Nat) : (hand1 S p sz).w = S.w := by
  unfold hand1
  split <;> rfl
theorem hand1_nb (S : St) (p sz : Nat) : (hand1 S p sz).nb = S.nb ∧ (hand1 S p sz).live = S.live ∧ (hand1 S p sz).d = S.d := by
  unfold hand1
  split <;> exact ⟨rfl, rfl, rfl⟩
theorem hand1_fr (S : St) (p sz j : Nat) : (hand1 S p sz).b j 49 = S.b j 49 := by
  unfold hand1
  split <;> exact setP_fr _ _ _ _ _ (by omega)

/-- A chunk handed out. -/
theorem One.hand {S : St} {c sz us hd rt : Nat} (h : One S c sz us hd rt) (hc : c < 64) (hz : sz = 8 * (c + 1)) (hus : us < 16384 / sz) (hh : hd ≤ us + 1) (hrt : rt ≤ us + 1) (hb : rt ≠ 0 → S.d 0 ((rt - 1) * sz) = 0 ∧ S.d 0 ((rt - 1) * sz + 1) = 0) (hr0 : rt = 0 → hd = us) :
    HandOk S c 0 sz ∧ chunkOf S 0 = (if rt = 0 then hd else rt - 1) ∧ One (handS S c 0 sz) c sz (us + 1) (if rt = 0 then hd + 1 else hd) 0 ∧ (handS S c 0 sz).d = S.d := by
  have hcap := cap_ge c sz hc hz
  have hch : chunkOf S 0 = if rt = 0 then hd else rt - 1 := by
    unfold chunkOf
    rw [h.p3, h.p2]
    by_cases e : rt = 0
    · rw [if_pos (by omega), if_pos e]
      omega
    · rw [if_neg (by omega), if_neg e]
      omega
  have hat : ∀ k, atC 0 k sz = k * sz := fun k => by unfold atC; omega
  have ert : (getP S 0 3).toNat - 1 = rt - 1 := by rw [h.p3]; omega
  have h2 : ∀ f, f < 6 → getP (hand2 S 0 sz) 0 f = if f = 1 then (us : Int) + 1 else if f = 2 then (if rt = 0 then (hd : Int) + 1 else hd) else if f = 3 then 0 else getP S 0 f := fun f hf => by
    unfold hand2
    rw [getP_setP _ _ _ _ _ _ hf (by omega), h.p1]
    by_cases h1 : f = 1
    · rw [if_pos ⟨rfl, h1⟩, if_pos h1]
    rw [if_neg (by omega), if_neg h1]
    unfold hand1
    by_cases e : rt = 0
    · rw [if_pos (by rw [h.p3]; omega), getP_setP _ _ _ _ _ _ hf (by omega), h.p2]
      by_cases h2 : f = 2
      · rw [if_pos ⟨rfl, h2⟩, if_pos h2, if_pos e]
      · rw [if_neg (by omega), if_neg h2]
        by_cases h3 : f = 3
        · rw [if_pos h3, h3, h.p3]
          omega
        · rw [if_neg h3]
    · rw [if_neg (by rw [h.p3]; omega), getP_setP _ _ _ _ _ _ hf (by omega), ert, hat]
      show (if 0 = 0 ∧ f = 3 then S.d 0 ((rt - 1) * sz) + 256 * S.d 0 ((rt - 1) * sz + 1) else _) = _
      rw [(hb e).1, (hb e).2]
      by_cases h3 : f = 3
      · rw [if_pos ⟨rfl, h3⟩, if_neg (by omega), if_pos h3]
        rfl
      · rw [if_neg (by omega), if_neg h3]
        by_cases h2 : f = 2
        · rw [if_pos h2, if_neg e, h2, h.p2]
        · rw [if_neg h2]
  have g4 : getP (hand2 S 0 sz) 0 4 = -1 := (h2 4 (by omega)).trans h.p4
  have g5 : getP (hand2 S 0 sz) 0 5 = -1 := (h2 5 (by omega)).trans h.p5
  have hw2 : (hand2 S 0 sz).w = S.w := hand2_w _ _ _
  have hn2 : (hand2 S 0 sz).nb = S.nb ∧ (hand2 S 0 sz).live = S.live ∧ (hand2 S 0 sz).d = S.d := hand1_nb S 0 sz
  have hf2 : (hand2 S 0 sz).b 0 49 = 7 := by
    show (setP (hand1 S 0 sz) 0 1 _).b 0 49 = 7
    rw [setP_fr _ _ _ _ _ (by omega), hand1_fr, h.bf]
  refine ⟨⟨h.live 0 (by omega), by omega, ⟨us, h.p1, by omega⟩, ⟨hd, h.p2, by omega⟩, ⟨rt, h.p3, by omega⟩, ?_, fun hne => ?_, fun _ => ⟨.inl g4, .inl ?_⟩⟩, hch, ?_, ?_⟩
  · rw [hch]
    have hk : (if rt = 0 then hd else rt - 1) + 1 ≤ 16384 / sz := by
      by_cases e : rt = 0
      · rw [if_pos e]
        have := hr0 e
        omega
      · rw [if_neg e]
        omega
    have := Nat.mul_le_mul_right sz hk
    rw [Nat.add_mul] at this
    omega
  · have e : rt ≠ 0 := by have := h.p3; omega
    rw [ert, hat]
    exact ⟨0, 0, by omega, by omega, (hb e).1, (hb e).2⟩
  · unfold unlink1
    rw [if_pos g4, getP_setH, g5]
  · unfold handS
    by_cases hfull : us + 1 = 16384 / sz
    · rw [if_pos (by rw [h.p1]; omega)]
      have hu := fun f hf => unlinkS_pv (hand2 S 0 sz) (3 + c) 0 0 f hf (-1) (-1) g4 g5 (.inl rfl) (.inl rfl) (by omega) (by omega)
      refine ⟨?_, ?_, ?_, ?_, fun j hj hne => ?_, ?_, ?_, ?_, ?_, ?_, ?_, ?_, ?_, ?_, ?_⟩
      · rw [(unlinkS_nb _ _ _).1, hn2.1, h.nb]
      · rw [(unlinkS_nb _ _ _).2, hn2.2.1, h.lv]
      · rw [unlinkS_hd, if_pos g4, g5, if_pos hfull]
      · rw [unlinkS_w _ _ _ _ (by omega), hw2, h.cp]
      · rw [unlinkS_w _ _ _ _ (by omega), hw2, h.cpo j hj hne]
      · rw [unlinkS_w _ _ _ _ (by omega), hw2, h.fr]
      · rw [unlinkS_w _ _ _ _ (by omega), hw2, h.fp]
      · rw [unlinkS_w _ _ _ _ (by omega), hw2, h.hb]
      · rw [unlinkS_fr, hf2]
      · rw [hu 0 (by omega), if_pos rfl, if_neg (by omega)]
        exact (h2 0 (by omega)).trans h.p0
      · rw [hu 1 (by omega), if_pos rfl, if_neg (by omega)]
        exact (h2 1 (by omega)).trans (by rfl)
      · rw [hu 2 (by omega), if_pos rfl, if_neg (by omega)]
        refine (h2 2 (by omega)).trans ?_
        rw [if_neg (by omega), if_pos rfl]
        split <;> rfl
      · rw [hu 3 (by omega), if_pos rfl, if_neg (by omega)]
        exact (h2 3 (by omega)).trans (by rfl)
      · rw [hu 4 (by omega), if_pos rfl, if_pos (by omega)]
      · rw [hu 5 (by omega), if_pos rfl, if_pos (by omega)]
    · rw [if_neg (by rw [h.p1]; omega)]
      refine ⟨?_, ?_, ?_, ?_, fun j hj hne => ?_, ?_, ?_, ?_, hf2, (h2 0 (by omega)).trans h.p0, (h2 1 (by omega)).trans (by rfl), ?_, (h2 3 (by omega)).trans (by rfl), g4, g5⟩
      · rw [hn2.1, h.nb]
      · rw [hn2.2.1, h.lv]
      · rw [hw2, h.par, if_neg (by omega), if_neg hfull]
      · rw [hw2, h.cp]
      · rw [hw2, h.cpo j hj hne]
      · rw [hw2, h.fr]
      · rw [hw2, h.fp]
      · rw [hw2, h.hb]
      · refine (h2 2 (by omega)).trans ?_
        rw [if_neg (by omega), if_pos rfl]
        split <;> rfl
  · unfold handS
    split
    · rw [unlinkS_d, hn2.2.2]
    · rw [hn2.2.2]

theorem put2_d (S : St) (i o v k j : Nat) : (put2 S i o v).d k j = if k = i ∧ j = o + 1 then ((v / 256 : Nat) : Int) else if k = i ∧ j = o then ((v % 256 : Nat) : Int) else S.d k j := by
  unfold put2
  simp only []
  by_cases h1 : k = i ∧ j = o + 1
  · obtain ⟨rfl, rfl⟩ := h1
    rw [upd2_same, if_pos ⟨rfl, rfl⟩]
  · rw [upd2_other _ _ _ _ _ _ h1, if_neg h1]
    by_cases h2 : k = i ∧ j = o
    · obtain ⟨rfl, rfl⟩ := h2
      rw [upd2_same, if_pos ⟨rfl, rfl⟩]
    · rw [upd2_other _ _ _ _ _ _ h2, if_neg h2]

theorem One.relOk {S : St} {c sz us hd rt ch : Nat} (h : One S c sz us hd rt) (hc : c < 64) (hz : sz = 8 * (c + 1)) (hus : 0 < us) (hus1 : us ≤ 16384 / sz) (hrt : rt ≤ 16384 / sz) (hch : ch < 16384 / sz) : RelOk S c 0 ch sz := by
  have hcap := cap_ge c sz hc hz
  refine ⟨h.live 0 (by omega), by omega, h.p0, ⟨us, h.p1, hus, by omega⟩, ⟨rt, h.p3, by omega⟩, ?_, fun hf => .inl ?_⟩
  · have := Nat.mul_le_mul_right sz (show ch + 1 ≤ 16384 / sz by omega)
    rw [Nat.add_mul] at this
    omega
  · rw [h.par, if_pos (by have := h.p1; omega)]

theorem One.rel12 {S : St} {c sz us hd rt ch : Nat} (h : One S c sz us hd rt) (hc : c < 64) (hus : 0 < us) (hus1 : us ≤ 16384 / sz) :
    One (rel2 (rel1 S c 0 sz) 0 ch sz) c sz (us - 1) hd (ch + 1) ∧ ∀ j, (rel2 (rel1 S c 0 sz) 0 ch sz).d 0 j = if j = ch * sz + 1 then ((rt / 256 : Nat) : Int) else if j = ch * sz then ((rt % 256 : Nat) : Int) else S.d 0 j := by
  have hat : atC 0 ch sz = ch * sz := by unfold atC; omega
  have h1 : ∀ f, f < 6 → getP (rel1 S c 0 sz) 0 f = getP S 0 f := fun f hf => by
    unfold rel1
    split
    · rename_i hfull
      have e : S.w (3 + c) = -1 := by rw [h.par, if_pos (by have := h.p1; omega)]
      rw [linkS_pv _ _ _ _ _ hf (.inl e) (by rw [e]; omega), if_pos rfl]
      by_cases h4 : f = 4
      · rw [if_pos h4, h4, h.p4]
      · rw [if_neg h4]
        by_cases h5 : f = 5
        · rw [if_pos h5, h5, h.p5, e]
        · rw [if_neg h5]
    · rfl
  have hw : (rel1 S c 0 sz).w (3 + c) = 0 := by
    unfold rel1
    split
    · exact linkS_hd _ _ _
    · rename_i hn
      rw [h.par, if_neg (fun e => hn (by rw [h.p1, e]))]
  have hn : (rel1 S c 0 sz).nb = S.nb ∧ (rel1 S c 0 sz).live = S.live ∧ (rel1 S c 0 sz).d = S.d := by
    unfold rel1
    split
    · exact ⟨(linkS_nb _ _ _).1, (linkS_nb _ _ _).2, linkS_d _ _ _⟩
    · exact ⟨rfl, rfl, rfl⟩
  have hf : (rel1 S c 0 sz).b 0 49 = 7 := by
    unfold rel1
    split
    · rw [linkS_fr, h.bf]
    · exact h.bf
  have h2 : ∀ f, f < 6 → getP (rel2 (rel1 S c 0 sz) 0 ch sz) 0 f = if f = 1 then (us : Int) - 1 else if f = 3 then ((ch + 1 : Nat) : Int) else getP S 0 f := fun f hf => by
    unfold rel2
    simp only []
    rw [getP_setP _ _ _ _ _ _ hf (by omega), getP_setP _ _ _ _ _ _ hf (by omega), h1 1 (by omega), h.p1]
    show (if 0 = 0 ∧ f = 1 then _ else if 0 = 0 ∧ f = 3 then _ else getP (rel1 S c 0 sz) 0 f) = _
    rw [h1 f hf]
    simp
  refine ⟨⟨?_, ?_, ?_, ?_, fun j hj hne => ?_, ?_, ?_, ?_, ?_, (h2 0 (by omega)).trans h.p0, ?_, (h2 2 (by omega)).trans h.p2, (h2 3 (by omega)).trans (by rfl), (h2 4 (by omega)).trans h.p4, (h2 5 (by omega)).trans h.p5⟩, fun j => ?_⟩
  · exact hn.1.trans h.nb
  · show (rel1 S c 0 sz).live 0 = true
    rw [hn.2.1, h.lv]
  · rw [rel2_w, hw, if_neg (by omega)]
  · rw [rel2_w, rel1_w _ _ _ _ _ (by omega), h.cp]
  · rw [rel2_w, rel1_w _ _ _ _ _ (by omega), h.cpo j hj hne]
  · rw [rel2_w, rel1_w _ _ _ _ _ (by omega), h.fr]
  · rw [rel2_w, rel1_w _ _ _ _ _ (by omega), h.fp]
  · rw [rel2_w, rel1_w _ _ _ _ _ (by omega), h.hb]
  · unfold rel2
    simp only []
    rw [setP_fr _ _ _ _ _ (by omega), setP_fr _ _ _ _ _ (by omega)]
    exact hf
  · refine (h2 1 (by omega)).trans ?_
    rw [if_pos rfl]
    omega
  · show (put2 (rel1 S c 0 sz) 0 (atC 0 ch sz) (getP (rel1 S c 0 sz) 0 3).toNat).d 0 j = _
    rw [put2_d, h1 3 (by omega), h.p3, hat, hn.2.2]
    simp

theorem One.rel3 {S : St} {c sz us hd rt : Nat} (h : One S c sz us hd rt) (hc : c < 64) : Zero (rel3 S c 0) c := by
  have h6 : (setP (setH (unlinkS S (3 + c) 0) (91 + c) (wrap32 ((unlinkS S (3 + c) 0).w (91 + c) - 1))) 0 0 255).w 179 = 1 := by
    show (setH (unlinkS S (3 + c) 0) (91 + c) _).w 179 = 1
    rw [setH_w _ _ _ _ (by omega), unlinkS_w _ _ _ _ (by omega), h.fr]
  have hw : ∀ j, j ≠ 179 → j ≠ 180 → (Ybulkcqic.rel3 S c 0).w j = (setH (unlinkS S (3 + c) 0) (91 + c) (wrap32 ((unlinkS S (3 + c) 0).w (91 + c) - 1))).w j := fun j h1 h2 => by
    unfold Ybulkcqic.rel3
    simp only []
    show (setH (linkS _ 179 0) 180 _).w j = _
    rw [setH_w _ _ _ _ h2, linkS_w _ _ _ _ h1]
    rfl
  have hg : ∀ f, f < 6 → getP (Ybulkcqic.rel3 S c 0) 0 f = getP (linkS (setP (setH (unlinkS S (3 + c) 0) (91 + c) (wrap32 ((unlinkS S (3 + c) 0).w (91 + c) - 1))) 0 0 255) 179 0) 0 f := fun f hf => by
    unfold Ybulkcqic.rel3
    simp only []
    rw [getP_setF _ _ _ _ _ hf, getP_setH]
  have hfp : (Ybulkcqic.rel3 S c 0).w 180 = 8 := by
    unfold Ybulkcqic.rel3
    simp only []
    show (setH (linkS (setP (setH (unlinkS S (3 + c) 0) (91 + c) (wrap32 ((unlinkS S (3 + c) 0).w (91 + c) - 1))) 0 0 255) 179 0) 180 (wrap64 ((linkS (setP (setH (unlinkS S (3 + c) 0) (91 + c) (wrap32 ((unlinkS S (3 + c) 0).w (91 + c) - 1))) 0 0 255) 179 0).w 180 + 1))).w 180 = _
    rw [setH_same, linkS_w _ _ _ _ (by omega)]
    show wrap64 ((setH (unlinkS S (3 + c) 0) (91 + c) _).w 180 + 1) = 8
    rw [setH_w _ _ _ _ (by omega), unlinkS_w _ _ _ _ (by omega), h.fp, w64 _ (by omega)]
    rfl
  refine ⟨?_, ?_, ?_, fun j hj => ?_, ?_, hfp, ?_, ?_, ?_, ?_⟩
  · unfold Ybulkcqic.rel3
    show (linkS _ 179 0).nb = 1
    rw [(linkS_nb _ _ _).1]
    show (unlinkS S (3 + c) 0).nb = 1
    rw [(unlinkS_nb _ _ _).1, h.nb]
  · unfold Ybulkcqic.rel3
    show (linkS _ 179 0).live 0 = true
    rw [(linkS_nb _ _ _).2]
    show (unlinkS S (3 + c) 0).live 0 = true
    rw [(unlinkS_nb _ _ _).2, h.lv]
  · rw [hw _ (by omega) (by omega), setH_w _ _ _ _ (by omega), unlinkS_hd, if_pos h.p4, h.p5]
  · rw [hw _ (by omega) (by omega)]
    by_cases e : j = c
    · subst e
      rw [setH_same, unlinkS_w _ _ _ _ (by omega), h.cp, w32 _ (by omega)]
      rfl
    · rw [setH_w _ _ _ _ (by omega), unlinkS_w _ _ _ _ (by omega), h.cpo j hj e]
  · unfold Ybulkcqic.rel3
    show (setH (linkS (setP (setH (unlinkS S (3 + c) 0) (91 + c) (wrap32 ((unlinkS S (3 + c) 0).w (91 + c) - 1))) 0 0 255) 179 0) 180 (wrap64 ((linkS (setP (setH (unlinkS S (3 + c) 0) (91 + c) (wrap32 ((unlinkS S (3 + c) 0).w (91 + c) - 1))) 0 0 255) 179 0).w 180 + 1))).w 179 = 0
    rw [setH_w _ _ _ _ (by omega), linkS_hd]
    rfl
  · rw [hw _ (by omega) (by omega), setH_w _ _ _ _ (by omega), unlinkS_w _ _ _ _ (by omega), h.hb]
  · unfold Ybulkcqic.rel3
    simp only []
    rw [setF_fr, if_pos rfl]
    show wrap64 ((linkS (setP (setH (unlinkS S (3 + c) 0) (91 + c) (wrap32 ((unlinkS S (3 + c) 0).w (91 + c) - 1))) 0 0 255) 179 0).b 0 49 + 1) = 8
    rw [linkS_fr, setP_fr _ _ _ _ _ (by omega)]
    show wrap64 ((unlinkS S (3 + c) 0).b 0 49 + 1) = 8
    rw [unlinkS_fr, h.bf, w64 _ (by omega)]
    rfl
  · rw [hg 4 (by omega), linkS_pv _ _ _ _ _ (by omega) (by omega) (by rw [h6]; omega), if_pos rfl, if_pos rfl]
  · rw [hg 5 (by omega), linkS_pv _ _ _ _ _ (by omega) (by omega) (by rw [h6]; omega), if_pos rfl, if_neg (by omega), if_pos rfl, h6]

theorem One.rel4Ok {S : St} {c sz us hd rt : Nat} (h : One S c sz us hd rt) (hc : c < 64) : Rel4Ok S c 0 ∧ Zero (rel4 S c 0) c := by
  have hz := h.rel3 hc
  refine ⟨⟨.inl h.p4, .inl ?_, .inr ⟨1, h.fr, h.live 1 (by omega), by omega⟩, by rw [h.nb]; omega, fun _ h16 => ?_⟩, ?_⟩
  · unfold unlink1
    rw [if_pos h.p4, getP_setH, h.p5]
  · rw [hz.fp] at h16
    omega
  · unfold rel4
    simp only []
    rw [if_neg (by rw [hz.fp]; omega)]
    exact hz

end Go.Proofs.Ybulkcqic
