/-
  A chunk given back; a page freed.
-/
import Derived.Test.YbulkcqicFresh
namespace Go.Proofs.Ybulkcqic
open Go.RowKit

/-- The first two bytes of a chunk are no bytes of another. -/
theorem apart {p ch c q k c' o : Nat} (hc : c < 64) (hc' : c' < 64) (hch : ch < cap c) (hk : k < cap c') (ho : o < 8 * (c' + 1)) (hne : q = p → c' = c ∧ k ≠ ch) : ¬ (q / 8 = p / 8 ∧ atC q k (8 * (c' + 1)) + o = atC p ch (8 * (c + 1)) + 1) ∧ ¬ (q / 8 = p / 8 ∧ atC q k (8 * (c' + 1)) + o = atC p ch (8 * (c + 1))) := by
  unfold atC
  have b1 := cap_bounds c hc
  have b2 := cap_bounds c' hc'
  have m1 := Nat.mul_le_mul_right (8 * (c + 1)) (show ch + 1 ≤ cap c by omega)
  have m2 := Nat.mul_le_mul_right (8 * (c' + 1)) (show k + 1 ≤ cap c' by omega)
  rw [Nat.add_mul] at m1 m2
  by_cases hq : q = p
  · obtain ⟨rfl, hkc⟩ := hne hq
    subst hq
    rcases Nat.lt_or_gt_of_ne hkc with h | h
    · have m3 := Nat.mul_le_mul_right (8 * (c' + 1)) (show k + 1 ≤ ch by omega)
      rw [Nat.add_mul] at m3
      exact ⟨by omega, by omega⟩
    · have m3 := Nat.mul_le_mul_right (8 * (c' + 1)) (show ch + 1 ≤ k by omega)
      rw [Nat.add_mul] at m3
      exact ⟨by omega, by omega⟩
  · exact ⟨by omega, by omega⟩

theorem Chain.frame2 {S S' : St} {q c : Nat} : ∀ (rl : List Nat), (∀ a, a ∈ rl → S'.d (q / 8) (atC q a (8 * (c + 1))) = S.d (q / 8) (atC q a (8 * (c + 1))) ∧ S'.d (q / 8) (atC q a (8 * (c + 1)) + 1) = S.d (q / 8) (atC q a (8 * (c + 1)) + 1)) → Chain S q c rl → Chain S' q c rl
  | [], _, _ => trivial
  | a :: r, hd, h => ⟨(hd a (by simp)).1.trans h.1, (hd a (by simp)).2.trans h.2.1, Chain.frame2 r (fun b hb => hd b (by simp [hb])) h.2.2⟩

theorem rel1_nb (S : St) (c p sz : Nat) : (rel1 S c p sz).nb = S.nb ∧ (rel1 S c p sz).live = S.live ∧ (rel1 S c p sz).d = S.d ∧ (∀ j, (rel1 S c p sz).b j 49 = S.b j 49) ∧ ∀ q f, f < 4 → getP (rel1 S c p sz) q f = getP S q f := by
  unfold rel1
  split
  · exact ⟨(linkS_nb _ _ _).1, (linkS_nb _ _ _).2, linkS_d _ _ _, fun j => linkS_fr _ _ _ _, fun q f hf => linkS_get _ _ _ _ _ hf⟩
  · exact ⟨rfl, rfl, rfl, fun _ => rfl, fun _ _ _ => rfl⟩
theorem rel2_get (S : St) (p ch sz q f : Nat) (hf : f < 6) : getP (rel2 S p ch sz) q f = if q = p ∧ f = 1 then getP S p 1 - 1 else if q = p ∧ f = 3 then ((ch + 1 : Nat) : Int) else getP S q f := by
  unfold rel2
  simp only []
  rw [getP_setP _ _ _ _ _ _ hf (by omega), getP_setP _ _ _ _ _ _ hf (by omega)]
  rfl
theorem rel2_fr (S : St) (p ch sz j : Nat) : (rel2 S p ch sz).b j 49 = S.b j 49 := by
  unfold rel2
  simp only []
  rw [setP_fr _ _ _ _ _ (by omega), setP_fr _ _ _ _ _ (by omega)]
  rfl
theorem rel2_d (S : St) (p ch sz k j : Nat) : (rel2 S p ch sz).d k j = if k = p / 8 ∧ j = atC p ch sz + 1 then (((getP S p 3).toNat / 256 : Nat) : Int) else if k = p / 8 ∧ j = atC p ch sz then (((getP S p 3).toNat % 256 : Nat) : Int) else S.d k j := put2_d S (p / 8) (atC p ch sz) (getP S p 3).toNat k j

section
variable {E : Nat → Prop} {S : St} {X : List (Nat × Nat × Nat)} {t : Nat}

theorem Good.rel12 {c p ch : Nat} (h : Good E S ((p, ch, c) :: X) t) (ht : t ≤ 1000) :
    RelOk S c p ch (8 * (c + 1)) ∧ ch < cap c ∧ cP S c p ∧ Good (fun q => E q ∨ q = p) (rel2 (rel1 S c p (8 * (c + 1))) p ch (8 * (c + 1))) X t ∧
      cP (rel2 (rel1 S c p (8 * (c + 1))) p ch (8 * (c + 1))) c p ∧
      (∀ q k c', (q, k, c') ∈ X → ∀ o, o < 8 * (c' + 1) → (rel2 (rel1 S c p (8 * (c + 1))) p ch (8 * (c + 1))).d (q / 8) (atC q k (8 * (c' + 1)) + o) = S.d (q / 8) (atC q k (8 * (c' + 1)) + o)) := by
  obtain ⟨hc, hp⟩ : c < 64 ∧ cP S c p := h.xs (p, ch, c) (by simp)
  have hcap := cap_bounds c hc
  obtain ⟨us, hd, rl, hP, hpos⟩ := h.pg p c hc hp
  obtain ⟨hch, hchr⟩ := hP.xs ch (by simp)
  have hnd := List.nodup_cons.1 h.nd
  have hcnt : us = X.countP (fun x => x.1 == p) + 1 := by rw [hP.cnt, List.countP_cons_of_pos (by simp)]
  have hle := hP.le
  have hsum := hP.sum
  obtain ⟨np, hPl⟩ := h.part c hc
  obtain ⟨r1, r2, r3, r4, r5⟩ := rel1_nb S c p (8 * (c + 1))
  obtain ⟨S1, hS1⟩ : ∃ x, x = rel1 S c p (8 * (c + 1)) := ⟨_, rfl⟩
  have hw1 : ∀ j, j ≠ 3 + c → S1.w j = S.w j := fun j hj => by rw [hS1]; exact rel1_w _ _ _ _ _ hj
  have hfullp : getP S p 1 = ((16384 / (8 * (c + 1)) : Nat) : Int) → ¬ pP S c p := fun e hq => hq.2.2 e
  have hP1 : ∃ n, Lst S1 (3 + c) (fun q => q = p ∨ pP S c q) n := by
    rw [hS1]
    unfold rel1
    split
    · rename_i e
      exact ⟨_, hPl.link (hfullp e)⟩
    · rename_i e
      refine ⟨np, hPl.congr (fun q => ⟨.inr, fun hq => hq.elim (fun e2 => ?_) id⟩)⟩
      rw [e2]
      exact ⟨hp.1, hp.2, e⟩
  have hoth : ∀ i M n, Lst S i M n → i ≠ 3 + c → (∀ q, M q → ¬ pP S c q ∧ q ≠ p) → Lst S1 i M n := fun i M n hl hi hM => by
    rw [hS1]
    unfold rel1
    split
    · rename_i e
      exact hl.linkOther hPl hi (fun hq => (hM p hq).2 rfl) (hfullp e) (fun q hq => (hM q hq).1)
    · exact hl
  rw [← hS1] at r1 r2 r3 r4 r5 ⊢
  obtain ⟨S2, hS2⟩ : ∃ x, x = rel2 S1 p ch (8 * (c + 1)) := ⟨_, rfl⟩
  have hget : ∀ q f, f < 4 → getP S2 q f = if q = p ∧ f = 1 then ((us : Int) - 1) else if q = p ∧ f = 3 then ((ch + 1 : Nat) : Int) else getP S q f := fun q f hf => by
    rw [hS2, rel2_get _ _ _ _ _ _ (by omega), r5 p 1 (by omega), r5 q f hf, hP.eu]
  have h45 : ∀ q f, f = 4 ∨ f = 5 → getP S2 q f = getP S1 q f := fun q f hf => by
    rw [hS2, rel2_get _ _ _ _ _ _ (by omega), if_neg (by omega), if_neg (by omega)]
  have hlv : ∀ q, Live S2 q ↔ Live S q := fun q => by
    have e : Live S2 q ↔ Live S1 q := by rw [hS2]; exact Iff.rfl
    rw [e]
    unfold Live
    rw [r1, r2]
  have hw2 : S2.w = S1.w := by rw [hS2]; rfl
  have hd2 : ∀ k j, S2.d k j = if k = p / 8 ∧ j = atC p ch (8 * (c + 1)) + 1 then ((lnk rl / 256 : Nat) : Int) else if k = p / 8 ∧ j = atC p ch (8 * (c + 1)) then ((lnk rl % 256 : Nat) : Int) else S.d k j := fun k j => by
    rw [hS2, rel2_d, r5 p 3 (by omega), hP.er, r3]
    rfl
  have hb2 : ∀ j, S2.b j 49 = S.b j 49 := fun j => by rw [hS2, rel2_fr, r4]
  have h0 : ∀ q, getP S2 q 0 = getP S q 0 := fun q => by rw [hget q 0 (by omega), if_neg (by omega), if_neg (by omega)]
  have hcP : ∀ c' q, cP S2 c' q ↔ cP S c' q := fun c' q => by
    unfold cP
    rw [hlv q, h0 q]
  have hfr : ∀ i M n, Lst S1 i M n → Lst S2 i M n := fun i M n hl => hl.frame (by rw [hw2]) (fun q _ => ⟨h45 q 4 (.inl rfl), h45 q 5 (.inr rfl)⟩)
  have hdat : ∀ q k c' o, c' < 64 → k < cap c' → o < 8 * (c' + 1) → (q = p → c' = c ∧ k ≠ ch) → S2.d (q / 8) (atC q k (8 * (c' + 1)) + o) = S.d (q / 8) (atC q k (8 * (c' + 1)) + o) := fun q k c' o h1 h2 h3 h4 => by
    have ha := apart (p := p) (ch := ch) hc h1 (by omega) h2 h3 h4
    rw [hd2, if_neg ha.1, if_neg ha.2]
  rw [← hS2]
  refine ⟨⟨hp.1, h.lt ht hp.1, hp.2, ⟨us, hP.eu, by omega, by omega⟩, ⟨lnk rl, hP.er, by have := lnk_le hP.lt; omega⟩, ?_, fun _ => ?_⟩, by omega, hp, ⟨?_, ?_, fun c' hc' => ?_, fun c' hc' => ?_, fun c' g1 g2 => ?_, fun q hq => ?_, fun i hi hl => ?_, fun q c' hc' hq => ?_, fun x hx => ?_, hnd.2⟩, (hcP c p).2 hp, fun q k c' hx o ho => ?_⟩
  · have := Nat.mul_le_mul_right (8 * (c + 1)) (show ch + 1 ≤ cap c by omega)
    rw [Nat.add_mul] at this
    omega
  · rcases hPl.head with ⟨g, _⟩ | ⟨q, hq, g⟩
    · exact .inl g
    · exact .inr ⟨q, g, hq.1, h.lt ht hq.1⟩
  · have e : S2.nb = S1.nb := by rw [hS2]; rfl
    rw [e, r1]
    exact h.nb
  · obtain ⟨n, g1, g2, g3⟩ := h.free
    refine ⟨n, by rw [hw2, hw1 _ (by omega), g1], g2, (hfr _ _ _ (hoth _ _ _ g3 (by omega) (fun q hq => ⟨fun hq2 => ?_, fun e => ?_⟩))).congr (fun q => ?_)⟩
    · have e := hq2.2.1
      rw [hq.2] at e
      omega
    · have e2 := hq.2
      rw [e, hp.2] at e2
      omega
    · unfold fP
      rw [hlv q, h0 q]
  · by_cases ec : c' = c
    · subst ec
      obtain ⟨n, hn⟩ := hP1
      refine ⟨n, (hfr _ _ _ hn).congr (fun q => ?_)⟩
      show q = p ∨ pP S c' q ↔ pP S2 c' q
      unfold pP
      rw [hlv q, h0 q, hget q 1 (by omega)]
      by_cases e : q = p
      · rw [if_pos ⟨e, rfl⟩]
        exact ⟨fun _ => ⟨e ▸ hp.1, e ▸ hp.2, by omega⟩, fun _ => .inl e⟩
      · rw [if_neg (fun h => e h.1), if_neg (fun h => e h.1)]
        exact ⟨fun hx => hx.elim (fun hx => absurd hx e) id, .inr⟩
    · obtain ⟨n, hn⟩ := h.part c' hc'
      have hcc : ¬ ((c : Int) = (c' : Int)) := fun e3 => ec (Int.ofNat.inj e3).symm
      refine ⟨n, (hfr _ _ _ (hoth _ _ _ hn (by omega) (fun q hq => ⟨fun hq2 => hcc (hq2.2.1.symm.trans hq.2.1), fun e => hcc ?_⟩))).congr (fun q => ?_)⟩
      · have e2 := hq.2.1
        rw [e] at e2
        exact hp.2.symm.trans e2
      · unfold pP
        rw [hlv q, h0 q]
        by_cases e : q = p
        · subst e
          exact ⟨fun hx => absurd (hp.2.symm.trans hx.2.1) hcc, fun hx => absurd (hp.2.symm.trans hx.2.1) hcc⟩
        · rw [hget q 1 (by omega), if_neg (fun h => e h.1), if_neg (fun h => e h.1)]
  · obtain ⟨l, g1, g2, g3, g4⟩ := h.cls c' hc'
    exact ⟨l, g1, fun q => (g2 q).trans (hcP c' q).symm, by rw [hw2, hw1 _ (by omega), g3], g4⟩
  · rw [hw2, hw1 _ (by omega), h.hi c' g1 g2]
  · rw [h0 q]
    exact h.kind q ((hlv q).1 hq)
  · have e1 : S2.nb = S1.nb := by rw [hS2]; rfl
    have e2 : S2.live = S1.live := by rw [hS2]; rfl
    rw [e1, r1] at hi
    rw [e2, r2] at hl
    rw [hb2, h.bf i hi hl]
    congr 1
    refine sum8_congr _ _ (fun j _ => ?_)
    unfold isF
    rw [h0]
  · have hq' := (hcP c' q).1 hq
    by_cases e : q = p
    · subst e
      obtain rfl : c' = c := Int.ofNat.inj (hq'.2.symm.trans hp.2)
      refine ⟨us - 1, hd, ch :: rl, ⟨?_, ?_, hle, ?_, ⟨?_, ?_, ?_⟩, List.nodup_cons.2 ⟨hchr, hP.nd⟩, fun a ha => ?_, fun k hk => ?_, by simp; omega, by omega⟩, fun hn => absurd (.inr rfl) hn⟩
      · rw [hget q 1 (by omega), if_pos ⟨rfl, rfl⟩]
        omega
      · rw [hget q 2 (by omega), if_neg (by omega), if_neg (by omega), hP.eh]
      · rw [hget q 3 (by omega), if_neg (by omega), if_pos ⟨rfl, rfl⟩]
        rfl
      · rw [hd2, if_neg (by omega), if_pos ⟨rfl, rfl⟩]
      · rw [hd2, if_pos ⟨rfl, rfl⟩]
      · refine Chain.frame2 rl (fun a ha => ?_) hP.ch
        have hac := hP.lt a ha
        have hne : q = q → c' = c' ∧ a ≠ ch := fun _ => ⟨rfl, fun e => hchr (e ▸ ha)⟩
        have d0 := hdat q a c' 0 hc (by omega) (by omega) hne
        rw [Nat.add_zero] at d0
        exact ⟨d0, hdat q a c' 1 hc (by omega) (by omega) hne⟩
      · rw [List.mem_cons] at ha
        rcases ha with rfl | ha
        · exact hch
        · exact hP.lt a ha
      · obtain ⟨g1, g2⟩ := hP.xs k (by simp [hk])
        refine ⟨g1, fun hm => ?_⟩
        rw [List.mem_cons] at hm
        rcases hm with rfl | hm
        · exact hnd.1 hk
        · exact g2 hm
    · obtain ⟨us', hd', rl', g1, g2⟩ := h.pg q c' hc' hq'
      have gle := g1.le
      have hg : ∀ f, f < 4 → getP S2 q f = getP S q f := fun f hf => by rw [hget q f hf, if_neg (fun h => e h.1), if_neg (fun h => e h.1)]
      refine ⟨us', hd', rl', ⟨(hg 1 (by omega)).trans g1.eu, (hg 2 (by omega)).trans g1.eh, g1.le, (hg 3 (by omega)).trans g1.er, Chain.frame2 rl' (fun a ha => ?_) g1.ch, g1.nd, g1.lt, fun k hk => g1.xs k (by simp [hk]), g1.sum, ?_⟩, fun hn => g2 (fun he => hn (.inl he))⟩
      · have hac := g1.lt a ha
        have d0 := hdat q a c' 0 hc' (by omega) (by omega) (fun h => absurd h e)
        rw [Nat.add_zero] at d0
        exact ⟨d0, hdat q a c' 1 hc' (by omega) (by omega) (fun h => absurd h e)⟩
      · rw [g1.cnt, List.countP_cons_of_neg (by simpa using fun e2 => e e2.symm)]
  · exact ⟨(h.xs x (by simp [hx])).1, (hcP _ _).2 (h.xs x (by simp [hx])).2⟩
  · obtain ⟨hc', hq'⟩ : c' < 64 ∧ cP S c' q := h.xs (q, k, c') (by simp [hx])
    obtain ⟨us', hd', rl', g1, g2⟩ := h.pg q c' hc' hq'
    have g3 := (g1.xs k (by simp [hx])).1
    have g4 := g1.le
    refine hdat q k c' o hc' (by omega) ho (fun e => ?_)
    subst e
    obtain rfl : c' = c := Int.ofNat.inj (hq'.2.symm.trans hp.2)
    exact ⟨rfl, fun e => hnd.1 (e ▸ hx)⟩
end

end Go.Proofs.Ybulkcqic
