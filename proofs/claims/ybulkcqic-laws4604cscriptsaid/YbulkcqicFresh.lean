/-
  A new block.
-/
import Derived.Test.YbulkcqicHand
namespace Go.Proofs.Ybulkcqic
open Go.RowKit

theorem newS_get (S : St) (n q f : Nat) (hf : f < 6) : getP (newS S n) q f = if q / 8 = n then pageI f else getP S q f := by
  unfold getP
  show (if q / 8 = n then laidB 8 else S.b (q / 8)) (1 + q % 8 * 6 + f) = _
  by_cases e : q / 8 = n
  · rw [if_pos e, if_pos e]
    unfold laidB
    rw [if_neg (by omega), if_pos (by omega)]
    congr 1
    omega
  · rw [if_neg e, if_neg e]
theorem newS_live (S : St) (n q : Nat) (hn : n ≤ S.nb) : Live (newS S n) q ↔ q / 8 = n ∨ Live S q := by
  show (q / 8 < (if n = S.nb then S.nb + 1 else S.nb) ∧ (if q / 8 = n then true else S.live (q / 8)) = true) ↔ _
  by_cases e : q / 8 = n
  · rw [if_pos e]
    refine ⟨fun _ => .inl e, fun _ => ⟨?_, rfl⟩⟩
    by_cases e2 : n = S.nb
    · rw [if_pos e2]; omega
    · rw [if_neg e2]; omega
  · rw [if_neg e]
    refine ⟨fun h => .inr ⟨?_, h.2⟩, fun h => h.elim (fun h => absurd h e) (fun h => ⟨?_, h.2⟩)⟩
    · have h1 := h.1
      by_cases e2 : n = S.nb
      · rw [if_pos e2] at h1; omega
      · rw [if_neg e2] at h1; exact h1
    · have h1 := h.1
      by_cases e2 : n = S.nb
      · rw [if_pos e2]; omega
      · rw [if_neg e2]; exact h1
theorem linkN_get (S : St) (n k q f : Nat) (hf : f < 4) : getP (linkN S n k) q f = getP S q f := by
  induction k with
  | zero => rfl
  | succ k ih => exact (linkS_get _ _ _ _ _ hf).trans ih
theorem linkN_d (S : St) (n k : Nat) : (linkN S n k).d = S.d := by
  induction k with
  | zero => rfl
  | succ k ih => exact (linkS_d _ _ _).trans ih
theorem linkN_fr (S : St) (n k j : Nat) : (linkN S n k).b j 49 = S.b j 49 := by
  induction k with
  | zero => rfl
  | succ k ih => exact (linkS_fr _ _ _ _).trans ih
theorem freeS_get (S : St) (n q f : Nat) (hf : f < 4) : getP (freeS S n) q f = if q / 8 = n then pageI f else getP S q f := by
  show getP (linkN (newS S n) n 8) q f = _
  rw [linkN_get _ _ _ _ _ hf, newS_get _ _ _ _ (by omega)]
theorem freeS_live (S : St) (n q : Nat) (hn : n ≤ S.nb) : Live (freeS S n) q ↔ q / 8 = n ∨ Live S q := by
  rw [← newS_live S n q hn]
  show (q / 8 < (linkN (newS S n) n 8).nb ∧ (linkN (newS S n) n 8).live (q / 8) = true) ↔ _
  rw [(linkN_nb _ _ _).1, (linkN_nb _ _ _).2]
  exact Iff.rfl
theorem freeS_d (S : St) (n i : Nat) (h : i ≠ n) : (freeS S n).d i = S.d i := by
  show (linkN (newS S n) n 8).d i = _
  rw [linkN_d]
  show (if i = n then fun _ => 0 else S.d i) = _
  rw [if_neg h]
theorem freeS_fr (S : St) (n i : Nat) : (freeS S n).b i 49 = if i = n then 8 else S.b i 49 := by
  show (linkN (newS S n) n 8).b i 49 = _
  rw [linkN_fr]
  show (if i = n then laidB 8 else S.b i) 49 = _
  by_cases h : i = n
  · rw [if_pos h, if_pos h]
    rfl
  · rw [if_neg h, if_neg h]

section
variable {E : Nat → Prop} {S : St} {X : List (Nat × Nat × Nat)} {t : Nat}

theorem dead {n q : Nat} (hn : n < S.nb → S.live n = false) (e : q / 8 = n) : ¬ Live S q := fun h => by
  have h1 := h.1
  have h2 := h.2
  rw [e] at h1 h2
  rw [hn h1] at h2
  exact absurd h2 (by simp)

theorem linkN_own (S : St) (n : Nat) (hw : S.w 179 = -1) (k : Nat) (hk : k ≤ 8) : Lst (linkN (newS S n) n k) 179 (fun q => n * 8 + (8 - k) ≤ q ∧ q < n * 8 + 8) k := by
  induction k with
  | zero => exact ⟨[], List.nodup_nil, hw, trivial, fun q => ⟨fun h => absurd h (by simp), fun h => absurd h (by omega)⟩, rfl⟩
  | succ k ih =>
    refine ((ih (by omega)).link (p := n * 8 + (7 - k)) (by omega)).congr (fun q => ?_)
    omega
theorem linkN_other {n i m : Nat} {N : Nat → Prop} (hw : S.w 179 = -1) (hl : Lst S i N m) (hi : i ≠ 179) (hN : ∀ q, N q → q / 8 ≠ n) (k : Nat) (hk : k ≤ 8) : Lst (linkN (newS S n) n k) i N m := by
  induction k with
  | zero => exact hl.frame rfl (fun q hq => ⟨by show getP (newS S n) q 4 = _; rw [newS_get _ _ _ _ (by omega), if_neg (hN q hq)], by show getP (newS S n) q 5 = _; rw [newS_get _ _ _ _ (by omega), if_neg (hN q hq)]⟩)
  | succ k ih =>
    refine (ih (by omega)).linkOther (linkN_own S n hw k (by omega)) hi (p := n * 8 + (7 - k)) (fun h => hN _ h (by omega)) (by omega) (fun q hq h => hN q hq (by omega))

theorem Good.fresh (h : Good E S X t) (hw : S.w 179 = -1) {n : Nat} (hn : n ≤ S.nb) (hl : n < S.nb → S.live n = false) :
    Good E (freeS S n) X (t + 1) ∧ (freeS S n).w 179 = ((n * 8 : Nat) : Int) ∧ fP (freeS S n) (n * 8) := by
  obtain ⟨n0, h1, h2, hF⟩ := h.free
  have hno : ∀ q, ¬ fP S q := by
    rcases hF.head with ⟨_, h0⟩ | ⟨q, _, h0⟩
    · exact h0
    · omega
  have hn0 : n0 = 0 := hF.empty hno
  have hlv := fun q => freeS_live S n q hn
  have hget := fun q f hf => freeS_get S n q f hf
  have hdead := fun q (e : q / 8 = n) => dead (S := S) hl e
  have hp0 : pageI 0 = 255 := rfl
  have hcP : ∀ c q, c < 64 → (cP (freeS S n) c q ↔ cP S c q) := fun c q hc => by
    unfold cP
    rw [hlv q, hget q 0 (by omega)]
    by_cases e : q / 8 = n
    · rw [if_pos e, hp0]
      exact ⟨fun hx => absurd hx.2 (by omega), fun hx => absurd hx.1 (hdead q e)⟩
    · rw [if_neg e]
      exact ⟨fun hx => ⟨hx.1.elim (fun h => absurd h e) id, hx.2⟩, fun hx => ⟨.inr hx.1, hx.2⟩⟩
  have hw179 : (freeS S n).w 179 = ((n * 8 : Nat) : Int) := by
    unfold freeS
    simp only []
    rw [setH_w _ 181 179 _ (by omega), setH_w _ 180 179 _ (by omega)]
    exact linkN_hd _ _ _
  have hfr : ∀ i N m, Lst (linkN (newS S n) n 8) i N m → i ≠ 180 → i ≠ 181 → Lst (freeS S n) i N m := fun i N m hL h1 h2 => by
    refine hL.frame ?_ (fun q _ => ⟨rfl, rfl⟩)
    unfold freeS
    simp only []
    rw [setH_w _ 181 i _ h2, setH_w _ 180 i _ h1]
  have hnl : ∀ q, Live S q → q / 8 ≠ n := fun q hq e => hdead q e hq
  refine ⟨⟨?_, ⟨8, ?_, by omega, ?_⟩, fun c hc => ?_, fun c hc => ?_, fun c h1 h2 => ?_, fun q hq => ?_, fun i hi hli => ?_, fun q c hc hq => ?_, fun x hx => ?_, h.nd⟩, hw179, (hlv _).2 (.inl (by omega)), ?_⟩
  · have e : (freeS S n).nb = if n = S.nb then S.nb + 1 else S.nb := (linkN_nb (newS S n) n 8).1
    rw [e]
    have := h.nb
    split <;> omega
  · unfold freeS
    simp only []
    rw [setH_w _ 181 180 _ (by omega), setH_same, linkN_w _ _ _ _ (by omega)]
    show wrap64 (S.w 180 + 8) = _
    rw [h1, hn0, w64 _ (by omega)]
    rfl
  · refine (hfr _ _ _ (linkN_own S n hw 8 (by omega)) (by omega) (by omega)).congr (fun q => ?_)
    unfold fP
    rw [hlv q, hget q 0 (by omega)]
    by_cases e : q / 8 = n
    · rw [if_pos e, hp0]
      exact ⟨fun _ => ⟨.inl e, rfl⟩, fun _ => by omega⟩
    · rw [if_neg e]
      exact ⟨fun hx => absurd hx (by omega), fun hx => absurd ⟨hx.1.elim (fun h => absurd h e) id, hx.2⟩ (hno q)⟩
  · obtain ⟨m, hm⟩ := h.part c hc
    refine ⟨m, (hfr _ _ _ (linkN_other hw hm (by omega) (fun q hq => hnl q hq.1) 8 (by omega)) (by omega) (by omega)).congr (fun q => ?_)⟩
    unfold pP
    rw [hlv q, hget q 0 (by omega), hget q 1 (by omega)]
    by_cases e : q / 8 = n
    · rw [if_pos e, hp0]
      exact ⟨fun hx => absurd hx.1 (hdead q e), fun hx => absurd hx.2.1 (by omega)⟩
    · rw [if_neg e, if_neg e]
      exact ⟨fun hx => ⟨.inr hx.1, hx.2⟩, fun hx => ⟨hx.1.elim (fun h => absurd h e) id, hx.2⟩⟩
  · obtain ⟨l, g1, g2, g3, g4⟩ := h.cls c hc
    exact ⟨l, g1, fun q => (g2 q).trans (hcP c q hc).symm, by rw [freeS_w _ _ _ (by omega), g3], by omega⟩
  · rw [freeS_w _ _ _ (by omega), h.hi c h1 h2]
  · rw [hget q 0 (by omega)]
    by_cases e : q / 8 = n
    · rw [if_pos e]
      exact .inl hp0
    · rw [if_neg e]
      exact h.kind q (((hlv q).1 hq).elim (fun h => absurd h e) id)
  · rw [freeS_fr]
    by_cases e : i = n
    · rw [if_pos e]
      have : sum8 (fun k => isF (freeS S n) (i * 8 + k)) = 8 := by
        have e1 : ∀ k, k < 8 → isF (freeS S n) (i * 8 + k) = 1 := fun k hk => by
          unfold isF
          rw [hget _ 0 (by omega), if_pos (show (i * 8 + k) / 8 = n by omega), hp0, if_pos rfl]
        exact sum8_congr (fun _ => 1) _ e1
      rw [this]
      rfl
    · rw [if_neg e]
      have hL : Live S (i * 8) := by
        have := (hlv (i * 8)).1 ⟨by rw [show i * 8 / 8 = i by omega]; exact hi, by rw [show i * 8 / 8 = i by omega]; exact hli⟩
        exact this.elim (fun h => absurd h (by omega)) id
      have hL1 := hL.1
      have hL2 := hL.2
      rw [show i * 8 / 8 = i by omega] at hL1 hL2
      rw [h.bf i hL1 hL2]
      congr 1
      refine sum8_congr _ _ (fun k hk => ?_)
      unfold isF
      rw [show getP (freeS S n) (i * 8 + k) 0 = getP S (i * 8 + k) 0 by rw [hget _ 0 (by omega), if_neg (by omega)]]
  · have hq' := (hcP c q hc).1 hq
    obtain ⟨us, hd, rl, g1, g2⟩ := h.pg q c hc hq'
    have e := hnl q hq'.1
    exact ⟨us, hd, rl, g1.frame (fun f hf => by rw [hget q f hf, if_neg e]) (fun o => by rw [freeS_d _ _ _ e]), g2⟩
  · exact ⟨(h.xs x hx).1, (hcP _ _ (h.xs x hx).1).2 (h.xs x hx).2⟩
  · rw [hget _ 0 (by omega), if_pos (by omega)]
    exact hp0
end

end Go.Proofs.Ybulkcqic
