/-
  A free page becomes a size's; a chunk is handed out.
-/
import Derived.Test.YbulkcqicGood
namespace Go.Proofs.Ybulkcqic
open Go.RowKit

theorem sum8_le (f : Nat → Nat) (h : ∀ k, f k ≤ 1) : sum8 f ≤ 8 := by
  unfold sum8
  have a0 := h 0
  have a1 := h 1
  have a2 := h 2
  have a3 := h 3
  have a4 := h 4
  have a5 := h 5
  have a6 := h 6
  have a7 := h 7
  omega
/-- The state ahead of takeS's link. -/
def mid5 (S : St) (c p : Nat) : St := setPage (setH (take1 S p) (91 + c) (wrap32 ((take1 S p).w (91 + c) + 1))) p c
theorem takeS_eq (S : St) (c p : Nat) : takeS S c p = linkS (mid5 S c p) (3 + c) p := rfl
theorem mid5_get (S : St) (c p q f : Nat) (hf : f < 6) : getP (mid5 S c p) q f = if q = p then (if f = 0 then (c : Int) else if f ≤ 3 then 0 else -1) else getP (unlinkS S 179 p) q f := by
  unfold mid5
  rw [getP_setPage _ _ _ _ _ hf, getP_setH]
  unfold take1
  simp only []
  rw [getP_setF _ _ _ _ _ hf, getP_setH]
theorem mid5_w (S : St) (c p j : Nat) : (mid5 S c p).w j = if j = 91 + c then wrap32 ((take1 S p).w (91 + c) + 1) else if j = 180 then wrap64 ((unlinkS S 179 p).w 180 - 1) else (unlinkS S 179 p).w j := rfl
theorem mid5_nb (S : St) (c p : Nat) : (mid5 S c p).nb = S.nb ∧ (mid5 S c p).live = S.live ∧ (mid5 S c p).d = S.d := ⟨(unlinkS_nb _ _ _).1, (unlinkS_nb _ _ _).2, unlinkS_d _ _ _⟩
theorem takeS_nb (S : St) (c p : Nat) : (takeS S c p).nb = S.nb ∧ (takeS S c p).live = S.live ∧ (takeS S c p).d = S.d := by
  rw [takeS_eq]
  exact ⟨(linkS_nb _ _ _).1.trans (mid5_nb _ _ _).1, (linkS_nb _ _ _).2.trans (mid5_nb _ _ _).2.1, (linkS_d _ _ _).trans (mid5_nb _ _ _).2.2⟩
theorem takeS_live (S : St) (c p q : Nat) : Live (takeS S c p) q ↔ Live S q := by
  unfold Live
  rw [(takeS_nb S c p).1, (takeS_nb S c p).2.1]
theorem takeS_get (S : St) (c p q f : Nat) (hf : f < 4) : getP (takeS S c p) q f = if q = p then (if f = 0 then (c : Int) else 0) else getP S q f := by
  rw [takeS_eq, linkS_get _ _ _ _ _ hf, mid5_get _ _ _ _ _ (by omega), unlinkS_get _ _ _ _ _ hf, if_pos (show f ≤ 3 by omega)]
theorem takeS_fr (S : St) (c p j : Nat) : (takeS S c p).b j 49 = if j = p / 8 then wrap64 (S.b (p / 8) 49 - 1) else S.b j 49 := by
  rw [takeS_eq, linkS_fr]
  unfold mid5 setPage
  rw [setP_fr _ _ _ _ _ (by omega), setP_fr _ _ _ _ _ (by omega), setP_fr _ _ _ _ _ (by omega), setP_fr _ _ _ _ _ (by omega), setP_fr _ _ _ _ _ (by omega), setP_fr _ _ _ _ _ (by omega)]
  show (take1 S p).b j 49 = _
  unfold take1
  simp only []
  rw [setF_fr]
  show (if j = p / 8 then wrap64 ((unlinkS S 179 p).b (p / 8) 49 - 1) else (unlinkS S 179 p).b j 49) = _
  rw [unlinkS_fr, unlinkS_fr]

section
variable {E : Nat → Prop} {S : St} {X : List (Nat × Nat × Nat)} {t : Nat}

theorem Good.take (h : Good E S X t) (ht : t ≤ 1000) {c p : Nat} (hc : c < 64) (hp : fP S p) : Good (fun q => E q ∨ q = p) (takeS S c p) X (t + 1) := by
  have hget := fun q f hf => takeS_get S c p q f hf
  have hlv := fun q => takeS_live S c p q
  have hXp : ∀ x, x ∈ X → x.1 ≠ p := fun x hx e => by
    have h1 := h.xs x hx
    have h2 := h1.2.2
    rw [e, hp.2] at h2
    omega
  obtain ⟨n0, hw0, hb0, hF⟩ := h.free
  obtain ⟨m0, hm0, hF1⟩ := hF.unlink hp
  have hF5 : Lst (mid5 S c p) 179 (fun q => fP S q ∧ q ≠ p) m0 := hF1.frame (by rw [mid5_w, if_neg (by omega), if_neg (by omega)]) (fun q hq => ⟨by rw [mid5_get _ _ _ _ _ (by omega), if_neg hq.2], by rw [mid5_get _ _ _ _ _ (by omega), if_neg hq.2]⟩)
  have hP5 : ∀ c', c' < 64 → ∃ n, Lst (mid5 S c p) (3 + c') (pP S c') n := fun c' hc' => by
    obtain ⟨n, hn⟩ := h.part c' hc'
    refine ⟨n, (hn.unlinkOther hF (by omega) hp (fun q hq hq2 => ?_)).frame (by rw [mid5_w, if_neg (by omega), if_neg (by omega)]) (fun q hq => ?_)⟩
    · have h1 := hq.2.1
      rw [hq2.2] at h1
      omega
    · have hqp : q ≠ p := fun e => by
        have h1 := hq.2.1
        rw [e, hp.2] at h1
        omega
      exact ⟨by rw [mid5_get _ _ _ _ _ (by omega), if_neg hqp], by rw [mid5_get _ _ _ _ _ (by omega), if_neg hqp]⟩
  have hnp : ∀ c', c' < 64 → ¬ pP S c' p := fun c' hc' hq => by
    have h1 := hq.2.1
    rw [hp.2] at h1
    omega
  have hcP : ∀ c' q, c' < 64 → (cP (takeS S c p) c' q ↔ (q = p ∧ c' = c) ∨ (q ≠ p ∧ cP S c' q)) := fun c' q hc' => by
    unfold cP
    rw [hlv q, hget q 0 (by omega)]
    by_cases e : q = p
    · subst e
      rw [if_pos rfl, if_pos rfl]
      exact ⟨fun hx => .inl ⟨rfl, by have := hx.2; omega⟩, fun hx => hx.elim (fun hx => ⟨hp.1, by rw [hx.2]⟩) (fun hx => absurd rfl hx.1)⟩
    · rw [if_neg e]
      exact ⟨fun hx => .inr ⟨e, hx⟩, fun hx => hx.elim (fun hx => absurd hx.1 e) (fun hx => hx.2)⟩
  have hcap := cap_bounds c hc
  refine ⟨?_, ?_, fun c' hc' => ?_, fun c' hc' => ?_, fun c' h1 h2 => ?_, fun q hq => ?_, fun i hi hl => ?_, fun q c' hc' hq => ?_, fun x hx => ?_, h.nd⟩
  · rw [(takeS_nb S c p).1]
    exact Nat.le_succ_of_le h.nb
  · obtain ⟨nc, hPc⟩ := hP5 c hc
    refine ⟨m0, ?_, by omega, ?_⟩
    · rw [takeS_eq, linkS_w _ _ _ _ (by omega), mid5_w, if_neg (by omega), if_pos rfl, unlinkS_w _ _ _ _ (by omega), hw0, w64 _ (by omega)]
      omega
    · rw [takeS_eq]
      refine (hF5.linkOther hPc (by omega) (fun hq => hq.2 rfl) (hnp c hc) (fun q hq hq2 => ?_)).congr (fun q => ?_)
      · have h1 := hq2.2.1
        rw [hq.1.2] at h1
        omega
      · rw [← takeS_eq]
        show fP S q ∧ q ≠ p ↔ fP (takeS S c p) q
        unfold fP
        rw [hlv q, hget q 0 (by omega)]
        by_cases e : q = p
        · rw [if_pos e, if_pos rfl]
          exact ⟨fun hx => absurd e hx.2, fun hx => absurd hx.2 (by omega)⟩
        · rw [if_neg e]
          exact ⟨fun hx => hx.1, fun hx => ⟨hx, e⟩⟩
  · obtain ⟨nc, hPc⟩ := hP5 c hc
    by_cases ec : c' = c
    · subst ec
      refine ⟨nc + 1, ?_⟩
      rw [takeS_eq]
      refine (hPc.link (hnp c' hc')).congr (fun q => ?_)
      rw [← takeS_eq]
      show q = p ∨ pP S c' q ↔ pP (takeS S c' p) c' q
      unfold pP
      rw [hlv q, hget q 0 (by omega), hget q 1 (by omega)]
      by_cases e : q = p
      · rw [if_pos e, if_pos rfl, if_pos e, if_neg (by omega)]
        exact ⟨fun _ => ⟨e ▸ hp.1, rfl, by omega⟩, fun _ => .inl e⟩
      · rw [if_neg e, if_neg e]
        exact ⟨fun hx => hx.elim (fun hx => absurd hx e) id, .inr⟩
    · obtain ⟨n', hPn⟩ := hP5 c' hc'
      refine ⟨n', ?_⟩
      rw [takeS_eq]
      refine (hPn.linkOther hPc (by omega) (hnp c' hc') (hnp c hc) (fun q hq hq2 => ?_)).congr (fun q => ?_)
      · have h1 := hq.2.1
        have h2 := hq2.2.1
        omega
      · rw [← takeS_eq]
        show pP S c' q ↔ pP (takeS S c p) c' q
        unfold pP
        rw [hlv q, hget q 0 (by omega), hget q 1 (by omega)]
        by_cases e : q = p
        · rw [if_pos e, if_pos rfl]
          exact ⟨fun hx => absurd hx.2.1 (by rw [e, hp.2]; omega), fun hx => absurd hx.2.1 (by omega)⟩
        · rw [if_neg e, if_neg e]
  · obtain ⟨l, h1, h2, h3, h4⟩ := h.cls c' hc'
    have hpl : p ∉ l := fun e => by
      have := ((h2 p).1 e).2
      rw [hp.2] at this
      omega
    by_cases ec : c' = c
    · subst ec
      refine ⟨p :: l, List.nodup_cons.2 ⟨hpl, h1⟩, fun q => ?_, ?_, by simp; omega⟩
      · rw [hcP c' q hc', List.mem_cons, h2 q]
        by_cases e : q = p
        · simp [e]
        · simp [e]
      · rw [takeS_eq, linkS_w _ _ _ _ (by omega), mid5_w, if_pos rfl]
        show wrap32 ((if 91 + c' = 180 then _ else (unlinkS S 179 p).w (91 + c')) + 1) = _
        rw [if_neg (by omega), unlinkS_w _ _ _ _ (by omega), h3, w32 _ (by omega)]
        simp
    · refine ⟨l, h1, fun q => ?_, ?_, by omega⟩
      · rw [hcP c' q hc', h2 q]
        by_cases e : q = p
        · rw [e]
          exact ⟨fun hx => absurd hx.2 (by rw [hp.2]; omega), fun hx => hx.elim (fun hx => absurd hx.2 ec) (fun hx => absurd rfl hx.1)⟩
        · exact ⟨fun hx => .inr ⟨e, hx⟩, fun hx => hx.elim (fun hx => absurd hx.1 e) (fun hx => hx.2)⟩
      · rw [takeS_eq, linkS_w _ _ _ _ (by omega), mid5_w, if_neg (by omega), if_neg (by omega), unlinkS_w _ _ _ _ (by omega), h3]
  · rw [takeS_eq, linkS_w _ _ _ _ (by omega), mid5_w, if_neg (by omega), if_neg (by omega), unlinkS_w _ _ _ _ (by omega), h.hi c' h1 h2]
  · rw [hget q 0 (by omega)]
    by_cases e : q = p
    · rw [if_pos e, if_pos rfl]
      exact .inr ⟨c, hc, rfl⟩
    · rw [if_neg e]
      exact h.kind q ((hlv q).1 hq)
  · rw [(takeS_nb S c p).1] at hi
    rw [(takeS_nb S c p).2.1] at hl
    have hb := h.bf i hi hl
    rw [takeS_fr]
    by_cases e : i = p / 8
    · subst e
      have hup := sum8_up (fun k => isF (takeS S c p) (p / 8 * 8 + k)) (fun k => isF S (p / 8 * 8 + k)) (p % 8) (by omega) (by
        rw [show p / 8 * 8 + p % 8 = p by omega]
        unfold isF
        rw [hget p 0 (by omega), if_pos rfl, if_pos rfl, if_neg (by omega)]) (by
        rw [show p / 8 * 8 + p % 8 = p by omega]
        unfold isF
        rw [if_pos hp.2]) (fun k hk => by
        unfold isF
        rw [show getP (takeS S c p) (p / 8 * 8 + k) 0 = getP S (p / 8 * 8 + k) 0 by rw [hget _ 0 (by omega), if_neg (by omega)]])
      rw [if_pos rfl, hb, hup, w64 _ (by have := sum8_le (fun k => isF (takeS S c p) (p / 8 * 8 + k)) (fun k => isF_le _ _); omega)]
      omega
    · rw [if_neg e, hb]
      congr 1
      refine sum8_congr _ _ (fun k hk => ?_)
      unfold isF
      rw [show getP (takeS S c p) (i * 8 + k) 0 = getP S (i * 8 + k) 0 by rw [hget _ 0 (by omega), if_neg (by omega)]]
  · rcases (hcP c' q hc').1 hq with ⟨e1, e2⟩ | ⟨e1, e2⟩
    · subst e1 e2
      refine ⟨0, 0, [], ⟨?_, ?_, Nat.zero_le _, ?_, trivial, List.nodup_nil, fun a ha => absurd ha (by simp), fun k hk => absurd rfl (hXp _ hk), rfl, ?_⟩, fun hn => absurd (.inr rfl) hn⟩
      · rw [hget q 1 (by omega), if_pos rfl]; rfl
      · rw [hget q 2 (by omega), if_pos rfl]; rfl
      · rw [hget q 3 (by omega), if_pos rfl]; rfl
      · refine (List.countP_eq_zero.2 (fun x hx => ?_)).symm
        have := hXp x hx
        simpa using this
    · obtain ⟨us, hd, rl, h1, h2⟩ := h.pg q c' hc' e2
      exact ⟨us, hd, rl, h1.frame (fun f hf => by rw [hget q f hf, if_neg e1]) (fun o => by rw [(takeS_nb S c p).2.2]), fun hn => h2 (fun he => hn (.inl he))⟩
  · obtain ⟨h1, h2⟩ := h.xs x hx
    exact ⟨h1, (hcP _ _ h1).2 (.inr ⟨hXp x hx, h2⟩)⟩

theorem Good.takeOk (h : Good E S X t) (ht : t ≤ 1000) {p : Nat} (hp : fP S p) : TakeOk S p := by
  obtain ⟨n0, hw0, hb0, hF⟩ := h.free
  have hl := lst_lk h ht hF (fun q hq => hq.1) hp
  exact ⟨hp.1, h.lt ht hp.1, hl.1, by rw [unlink1_nx hF hp]; exact hl.2⟩
end

end Go.Proofs.Ybulkcqic
