/-
  A chunk is handed out.
-/
import Derived.Test.YbulkcqicTake
namespace Go.Proofs.Ybulkcqic
open Go.RowKit

theorem lk_of {S S' : St} {v : Int} (hl : ∀ q, Live S q → Live S' q) (h : Lk S v) : Lk S' v := by
  rcases h with h | ⟨q, h1, h2, h3⟩
  · exact .inl h
  · exact .inr ⟨q, h1, hl q h2, h3⟩
theorem lnk_le {rl : List Nat} {n : Nat} (h : ∀ a, a ∈ rl → a < n) : lnk rl ≤ n := by
  cases rl with
  | nil => exact Nat.zero_le _
  | cons a r => exact h a (by simp)

section
variable {E : Nat → Prop} {S : St} {X : List (Nat × Nat × Nat)} {t : Nat}

/-- What the page reads as, once a chunk is handed out. -/
theorem hand2_view {c p us hd : Nat} {rl : List Nat} (hc : c < 64) (hP : Pg S X p c us hd rl) (hne : us ≠ cap c) :
    ∃ hd' rl' k, chunkOf S p = k ∧ k < cap c ∧ hd' ≤ cap c ∧ Chain S p c rl' ∧ rl'.Nodup ∧ (∀ a, a ∈ rl' → a < hd') ∧ us + 1 + rl'.length = hd' ∧ k < hd' ∧ k ∉ rl' ∧ (∀ k', k' < hd ∧ k' ∉ rl → k' < hd' ∧ k' ∉ rl') ∧ ¬ (k < hd ∧ k ∉ rl) ∧
      (∀ q f, f < 6 → getP (hand2 S p (8 * (c + 1))) q f = if q = p then (if f = 1 then (us : Int) + 1 else if f = 2 then (hd' : Int) else if f = 3 then (lnk rl' : Int) else getP S q f) else getP S q f) ∧
      (getP S p 3 ≠ 0 → ∃ lo hi : Nat, lo < 256 ∧ hi < 256 ∧ S.d (p / 8) (atC p ((getP S p 3).toNat - 1) (8 * (c + 1))) = lo ∧ S.d (p / 8) (atC p ((getP S p 3).toNat - 1) (8 * (c + 1)) + 1) = hi) := by
  have hcap := cap_bounds c hc
  have hsum := hP.sum
  have hle := hP.le
  cases rl with
  | nil =>
    have e3 : getP S p 3 = 0 := hP.er
    have hs : us = hd := by simpa using hsum
    refine ⟨hd + 1, [], hd, ?_, by omega, by omega, trivial, List.nodup_nil, fun a ha => absurd ha (by simp), by simp [hs], by omega, by simp, fun k' hk => ⟨by omega, by simp⟩, by omega, fun q f hf => ?_, fun h => absurd e3 h⟩
    · unfold chunkOf
      rw [if_pos e3, hP.eh]
      simp
    · unfold hand2 hand1
      rw [if_pos e3, getP_setP _ _ _ _ _ _ hf (by omega), getP_setP _ _ _ _ _ _ hf (by omega), hP.eu, hP.eh]
      by_cases hq : q = p
      · subst hq
        obtain h | h | h | h | h | h : f = 0 ∨ f = 1 ∨ f = 2 ∨ f = 3 ∨ f = 4 ∨ f = 5 := by omega
        all_goals simp [h, lnk, e3]
      · simp [hq]
  | cons a r =>
    have e3 : getP S p 3 = ((a + 1 : Nat) : Int) := hP.er
    have e3' : ¬ getP S p 3 = 0 := by rw [e3]; omega
    have et : (getP S p 3).toNat - 1 = a := by rw [e3]; omega
    have ha := hP.lt a (by simp)
    have hn := List.nodup_cons.1 hP.nd
    have hch := hP.ch
    have hlr : lnk r ≤ hd := lnk_le (fun b hb => hP.lt b (by simp [hb]))
    refine ⟨hd, r, a, ?_, by omega, hle, hch.2.2, hn.2, fun b hb => hP.lt b (by simp [hb]), by simp at hsum; omega, ha, hn.1, fun k' hk => ⟨hk.1, fun h => hk.2 (by simp [h])⟩, fun h => h.2 (by simp), fun q f hf => ?_, fun _ => ?_⟩
    · unfold chunkOf
      rw [if_neg e3', et]
    · unfold hand2 hand1
      rw [if_neg e3', getP_setP _ _ _ _ _ _ hf (by omega), getP_setP _ _ _ _ _ _ hf (by omega), hP.eu, et, hch.1, hch.2.1]
      have em : ((lnk r % 256 : Nat) : Int) + 256 * ((lnk r / 256 : Nat) : Int) = (lnk r : Int) := by omega
      rw [em]
      by_cases hq : q = p
      · subst hq
        obtain h | h | h | h | h | h : f = 0 ∨ f = 1 ∨ f = 2 ∨ f = 3 ∨ f = 4 ∨ f = 5 := by omega
        all_goals simp [h, hP.eh]
      · simp [hq]
    · rw [et]
      exact ⟨lnk r % 256, lnk r / 256, by omega, by omega, hch.1, hch.2.1⟩

theorem hand2_live (S : St) (p sz q : Nat) : Live (hand2 S p sz) q ↔ Live S q := by
  unfold Live
  have h : (hand2 S p sz).nb = S.nb ∧ (hand2 S p sz).live = S.live ∧ (hand2 S p sz).d = S.d := hand1_nb S p sz
  rw [h.1, h.2.1]
theorem hand2_fr (S : St) (p sz j : Nat) : (hand2 S p sz).b j 49 = S.b j 49 := by
  unfold hand2
  rw [setP_fr _ _ _ _ _ (by omega), hand1_fr]
theorem handS_nb (S : St) (c p sz : Nat) : (handS S c p sz).nb = S.nb ∧ (handS S c p sz).live = S.live ∧ (handS S c p sz).d = S.d ∧ ∀ j, (handS S c p sz).b j 49 = S.b j 49 := by
  have h : (hand2 S p sz).nb = S.nb ∧ (hand2 S p sz).live = S.live ∧ (hand2 S p sz).d = S.d := hand1_nb S p sz
  unfold handS
  split
  · exact ⟨(unlinkS_nb _ _ _).1.trans h.1, (unlinkS_nb _ _ _).2.trans h.2.1, (unlinkS_d _ _ _).trans h.2.2, fun j => (unlinkS_fr _ _ _ _).trans (hand2_fr _ _ _ _)⟩
  · exact ⟨h.1, h.2.1, h.2.2, fun j => hand2_fr _ _ _ _⟩
theorem handS_get (S : St) (c p sz q f : Nat) (hf : f < 4) : getP (handS S c p sz) q f = getP (hand2 S p sz) q f := by
  unfold handS
  split
  · exact unlinkS_get _ _ _ _ _ hf
  · rfl

theorem Good.hand (h : Good E S X t) (ht : t ≤ 1000) {c p : Nat} (hc : c < 64) (hp : pP S c p) :
    HandOk S c p (8 * (c + 1)) ∧ chunkOf S p < cap c ∧ Good (fun q => E q ∧ q ≠ p) (handS S c p (8 * (c + 1))) ((p, chunkOf S p, c) :: X) t ∧ (handS S c p (8 * (c + 1))).d = S.d := by
  have hcap := cap_bounds c hc
  obtain ⟨us, hd, rl, hP, hpos⟩ := h.pg p c hc ⟨hp.1, hp.2.1⟩
  have hne : us ≠ cap c := fun e => hp.2.2 (by rw [hP.eu, e])
  obtain ⟨hd', rl', k, hk, hkc, hd1, hC, hN, hL, hS, hk1, hk2, hold, hnew, hv, htwo⟩ := hand2_view hc hP hne
  have hsum := hP.sum
  have hle := hP.le
  have hlv := hand2_live S p (8 * (c + 1))
  have hw2 : (hand2 S p (8 * (c + 1))).w = S.w := hand2_w _ _ _
  have h45 : ∀ q f, f = 4 ∨ f = 5 → getP (hand2 S p (8 * (c + 1))) q f = getP S q f := fun q f hf => by
    rw [hv q f (by omega)]
    by_cases e : q = p
    · rw [if_pos e, if_neg (by omega), if_neg (by omega), if_neg (by omega)]
    · rw [if_neg e]
  obtain ⟨np, hPl⟩ := h.part c hc
  have hP2 : Lst (hand2 S p (8 * (c + 1))) (3 + c) (pP S c) np := hPl.frame (by rw [hw2]) (fun q _ => ⟨h45 q 4 (.inl rfl), h45 q 5 (.inr rfl)⟩)
  have hlk := lst_lk h ht hPl (fun q hq => hq.1) hp
  have hwf : ∀ j, j ≠ 3 + c → (handS S c p (8 * (c + 1))).w j = S.w j := fun j hj => handS_w _ _ _ _ _ hj
  have hget : ∀ q f, f < 4 → getP (handS S c p (8 * (c + 1))) q f = if q = p then (if f = 1 then (us : Int) + 1 else if f = 2 then (hd' : Int) else if f = 3 then (lnk rl' : Int) else getP S q f) else getP S q f := fun q f hf => by
    rw [handS_get _ _ _ _ _ _ hf, hv q f (by omega)]
  have hlvS : ∀ q, Live (handS S c p (8 * (c + 1))) q ↔ Live S q := fun q => by
    unfold Live
    rw [(handS_nb S c p (8 * (c + 1))).1, (handS_nb S c p (8 * (c + 1))).2.1]
  have h0 : ∀ q, getP (handS S c p (8 * (c + 1))) q 0 = getP S q 0 := fun q => by
    rw [hget q 0 (by omega)]
    by_cases e : q = p
    · rw [if_pos e, if_neg (by omega), if_neg (by omega), if_neg (by omega)]
    · rw [if_neg e]
  have hoth : ∀ i M n, Lst S i M n → i ≠ 3 + c → (∀ q, M q → ¬ pP S c q) → Lst (handS S c p (8 * (c + 1))) i M n := fun i M n hl hi hd => by
    have h2 : Lst (hand2 S p (8 * (c + 1))) i M n := hl.frame (by rw [hw2]) (fun q _ => ⟨h45 q 4 (.inl rfl), h45 q 5 (.inr rfl)⟩)
    unfold handS
    split
    · exact h2.unlinkOther hP2 hi hp hd
    · exact h2
  have hcP : ∀ c' q, cP (handS S c p (8 * (c + 1))) c' q ↔ cP S c' q := fun c' q => by
    unfold cP
    rw [hlvS q, h0 q]
  refine ⟨⟨hp.1, h.lt ht hp.1, ⟨us, hP.eu, by omega⟩, ⟨hd, hP.eh, by omega⟩, ⟨lnk rl, hP.er, by have := lnk_le hP.lt; omega⟩, ?_, htwo, fun _ => ⟨?_, ?_⟩⟩, by omega, ⟨?_, ?_, fun c' hc' => ?_, fun c' hc' => ?_, fun c' h1 h2 => ?_, fun q hq => ?_, fun i hi hl => ?_, fun q c' hc' hq => ?_, fun x hx => ?_, ?_⟩, (handS_nb S c p (8 * (c + 1))).2.2.1⟩
  · rw [hk]
    have := Nat.mul_le_mul_right (8 * (c + 1)) (show k + 1 ≤ cap c by omega)
    rw [Nat.add_mul] at this
    omega
  · rw [h45 p 4 (.inl rfl)]
    exact lk_of (fun q hq => (hlv q).2 hq) hlk.1
  · rw [unlink1_nx hP2 hp, h45 p 5 (.inr rfl)]
    exact lk_of (fun q hq => (hlv q).2 hq) hlk.2
  · rw [(handS_nb S c p (8 * (c + 1))).1]
    exact h.nb
  · obtain ⟨n, h1, h2, h3⟩ := h.free
    refine ⟨n, by rw [hwf _ (by omega), h1], h2, (hoth _ _ _ h3 (by omega) (fun q hq hq2 => ?_)).congr (fun q => ?_)⟩
    · have e := hq2.2.1
      rw [hq.2] at e
      omega
    · unfold fP
      rw [hlvS q, h0 q]
  · by_cases ec : c' = c
    · subst ec
      unfold handS
      by_cases hfull : getP S p 1 + 1 = ((16384 / (8 * (c' + 1)) : Nat) : Int)
      · rw [if_pos hfull]
        obtain ⟨m, _, hm⟩ := hP2.unlink hp
        refine ⟨m, hm.congr (fun q => ?_)⟩
        have e1 : ∀ f, f < 4 → getP (unlinkS (hand2 S p (8 * (c' + 1))) (3 + c') p) q f = if q = p then (if f = 1 then (us : Int) + 1 else if f = 2 then (hd' : Int) else if f = 3 then (lnk rl' : Int) else getP S q f) else getP S q f := fun f hf => by
          rw [unlinkS_get _ _ _ _ _ hf, hv q f (by omega)]
        have e2 : Live (unlinkS (hand2 S p (8 * (c' + 1))) (3 + c') p) q ↔ Live S q := by
          unfold Live
          rw [(unlinkS_nb _ _ _).1, (unlinkS_nb _ _ _).2]
          exact hlv q
        show pP S c' q ∧ q ≠ p ↔ pP (unlinkS (hand2 S p (8 * (c' + 1))) (3 + c') p) c' q
        unfold pP
        rw [e2, e1 0 (by omega), e1 1 (by omega)]
        by_cases e : q = p
        · rw [if_pos e, if_pos e, if_pos rfl]
          refine ⟨fun hx => absurd e hx.2, fun hx => absurd ?_ hx.2.2⟩
          rw [hP.eu] at hfull
          exact hfull
        · rw [if_neg e, if_neg e]
          exact ⟨fun hx => hx.1, fun hx => ⟨hx, e⟩⟩
      · rw [if_neg hfull]
        refine ⟨np, hP2.congr (fun q => ?_)⟩
        unfold pP
        rw [hlv q, hv q 0 (by omega), hv q 1 (by omega)]
        by_cases e : q = p
        · rw [if_pos e, if_pos e, if_pos rfl, if_neg (by omega), if_neg (by omega), if_neg (by omega)]
          refine ⟨fun hx => ⟨hx.1, hx.2.1, fun e2 => hfull ?_⟩, fun hx => ⟨hx.1, hx.2.1, ?_⟩⟩
          · rw [hP.eu]
            exact e2
          · rw [e]
            exact hp.2.2
        · rw [if_neg e, if_neg e]
    · obtain ⟨n, hn⟩ := h.part c' hc'
      refine ⟨n, (hoth _ _ _ hn (by omega) (fun q hq hq2 => ?_)).congr (fun q => ?_)⟩
      · have e1 := hq.2.1
        have e2 := hq2.2.1
        omega
      · unfold pP
        rw [hlvS q, h0 q]
        by_cases e : q = p
        · subst e
          have hcc : ¬ ((c : Int) = (c' : Int)) := fun e3 => ec (Int.ofNat.inj e3).symm
          exact ⟨fun hx => absurd (hp.2.1.symm.trans hx.2.1) hcc, fun hx => absurd (hp.2.1.symm.trans hx.2.1) hcc⟩
        · rw [hget q 1 (by omega), if_neg e]
  · obtain ⟨l, h1, h2, h3, h4⟩ := h.cls c' hc'
    exact ⟨l, h1, fun q => (h2 q).trans (hcP c' q).symm, by rw [hwf _ (by omega), h3], h4⟩
  · rw [hwf _ (by omega), h.hi c' h1 h2]
  · rw [h0 q]
    exact h.kind q ((hlvS q).1 hq)
  · rw [(handS_nb S c p (8 * (c + 1))).1] at hi
    rw [(handS_nb S c p (8 * (c + 1))).2.1] at hl
    rw [(handS_nb S c p (8 * (c + 1))).2.2.2, h.bf i hi hl]
    congr 1
    refine sum8_congr _ _ (fun j _ => ?_)
    unfold isF
    rw [h0]
  · have hq' := (hcP c' q).1 hq
    by_cases e : q = p
    · subst e
      obtain rfl : c' = c := by
        have := hq'.2
        rw [hp.2.1] at this
        omega
      refine ⟨us + 1, hd', rl', ⟨?_, ?_, hd1, ?_, Chain.frame (fun o => by rw [(handS_nb S c' q (8 * (c' + 1))).2.2.1]) rl' hC, hN, hL, fun k' hk' => ?_, hS, ?_⟩, fun _ => by omega⟩
      · rw [hget q 1 (by omega), if_pos rfl, if_pos rfl]
        omega
      · rw [hget q 2 (by omega), if_pos rfl, if_neg (by omega), if_pos rfl]
      · rw [hget q 3 (by omega), if_pos rfl, if_neg (by omega), if_neg (by omega), if_pos rfl]
      · rw [List.mem_cons] at hk'
        rcases hk' with e | hk'
        · simp only [Prod.mk.injEq, and_true, true_and] at e
          rw [e, hk]
          exact ⟨hk1, hk2⟩
        · exact hold k' (hP.xs k' hk')
      · rw [List.countP_cons_of_pos (by simp), ← hP.cnt]
    · obtain ⟨us', hd'', rl'', g1, g2⟩ := h.pg q c' hc' hq'
      have g3 : Pg (handS S c p (8 * (c + 1))) X q c' us' hd'' rl'' := g1.frame (fun f hf => by rw [hget q f hf, if_neg e]) (fun o => by rw [(handS_nb S c p (8 * (c + 1))).2.2.1])
      refine ⟨us', hd'', rl'', ⟨g3.eu, g3.eh, g3.le, g3.er, g3.ch, g3.nd, g3.lt, fun k' hk' => ?_, g3.sum, ?_⟩, fun hn => g2 (fun he => hn ⟨he, e⟩)⟩
      · rw [List.mem_cons] at hk'
        rcases hk' with e2 | hk'
        · simp only [Prod.mk.injEq] at e2
          exact absurd e2.1 e
        · exact g3.xs k' hk'
      · rw [List.countP_cons_of_neg (by simpa using fun e2 => e e2.symm), ← g3.cnt]
  · rw [List.mem_cons] at hx
    rcases hx with rfl | hx
    · exact ⟨hc, (hcP _ _).2 ⟨hp.1, hp.2.1⟩⟩
    · exact ⟨(h.xs x hx).1, (hcP _ _).2 (h.xs x hx).2⟩
  · rw [List.nodup_cons]
    refine ⟨fun hx => hnew ?_, h.nd⟩
    rw [hk] at hx
    exact hP.xs k hx
end

end Go.Proofs.Ybulkcqic
