/-
  A page freed; a block given back.
-/
import Derived.Test.YbulkcqicBack
namespace Go.Proofs.Ybulkcqic
open Go.RowKit

/-- The state ahead of rel3's link. -/
def mid3 (S : St) (c p : Nat) : St := setP (setH (unlinkS S (3 + c) p) (91 + c) (wrap32 ((unlinkS S (3 + c) p).w (91 + c) - 1))) p 0 255
theorem rel3_eq (S : St) (c p : Nat) : rel3 S c p = setF (setH (linkS (mid3 S c p) 179 p) 180 (wrap64 ((linkS (mid3 S c p) 179 p).w 180 + 1))) (p / 8) (wrap64 ((setH (linkS (mid3 S c p) 179 p) 180 (wrap64 ((linkS (mid3 S c p) 179 p).w 180 + 1))).b (p / 8) 49 + 1)) := rfl
theorem mid3_w (S : St) (c p j : Nat) (h : j ≠ 91 + c) : (mid3 S c p).w j = (unlinkS S (3 + c) p).w j := by
  show (setH (unlinkS S (3 + c) p) (91 + c) _).w j = _
  rw [setH_w _ _ _ _ h]
theorem mid3_get (S : St) (c p q f : Nat) (hf : f < 6) : getP (mid3 S c p) q f = if q = p ∧ f = 0 then 255 else getP (unlinkS S (3 + c) p) q f := by
  unfold mid3
  rw [getP_setP _ _ _ _ _ _ hf (by omega), getP_setH]
theorem rel3_get (S : St) (c p q f : Nat) (hf : f < 4) : getP (rel3 S c p) q f = if q = p ∧ f = 0 then 255 else getP S q f := by
  rw [rel3_eq, getP_setF _ _ _ _ _ (by omega), getP_setH, linkS_get _ _ _ _ _ hf, mid3_get _ _ _ _ _ (by omega), unlinkS_get _ _ _ _ _ hf]
theorem rel3_45 (S : St) (c p q f : Nat) (hf : f < 6) : getP (rel3 S c p) q f = getP (linkS (mid3 S c p) 179 p) q f := by
  rw [rel3_eq, getP_setF _ _ _ _ _ hf, getP_setH]
theorem rel3_wj (S : St) (c p j : Nat) (h : j ≠ 180) : (rel3 S c p).w j = (linkS (mid3 S c p) 179 p).w j := by
  rw [rel3_eq]
  show (setH (linkS (mid3 S c p) 179 p) 180 _).w j = _
  rw [setH_w _ _ _ _ h]
theorem rel3_w180 (S : St) (c p : Nat) (hc : c < 64) : (rel3 S c p).w 180 = wrap64 (S.w 180 + 1) := by
  have e : (linkS (mid3 S c p) 179 p).w 180 = S.w 180 := by rw [linkS_w _ _ _ _ (by omega), mid3_w _ _ _ _ (by omega), unlinkS_w _ _ _ _ (by omega)]
  rw [rel3_eq]
  show (setH (linkS (mid3 S c p) 179 p) 180 (wrap64 ((linkS (mid3 S c p) 179 p).w 180 + 1))).w 180 = _
  rw [setH_same, e]
theorem rel3_nb (S : St) (c p : Nat) : (rel3 S c p).nb = S.nb ∧ (rel3 S c p).live = S.live ∧ (rel3 S c p).d = S.d := by
  have e1 : (linkS (mid3 S c p) 179 p).nb = S.nb := by rw [(linkS_nb _ _ _).1]; exact (unlinkS_nb _ _ _).1
  have e2 : (linkS (mid3 S c p) 179 p).live = S.live := by rw [(linkS_nb _ _ _).2]; exact (unlinkS_nb _ _ _).2
  have e3 : (linkS (mid3 S c p) 179 p).d = S.d := by rw [linkS_d]; exact unlinkS_d _ _ _
  exact ⟨e1, e2, e3⟩
theorem rel3_fr (S : St) (c p j : Nat) : (rel3 S c p).b j 49 = if j = p / 8 then wrap64 (S.b (p / 8) 49 + 1) else S.b j 49 := by
  have e : ∀ i, (linkS (mid3 S c p) 179 p).b i 49 = S.b i 49 := fun i => by
    rw [linkS_fr]
    unfold mid3
    rw [setP_fr _ _ _ _ _ (by omega)]
    exact unlinkS_fr _ _ _ _
  rw [rel3_eq, setF_fr]
  show (if j = p / 8 then wrap64 ((linkS (mid3 S c p) 179 p).b (p / 8) 49 + 1) else (linkS (mid3 S c p) 179 p).b j 49) = _
  rw [e, e]

section
variable {E : Nat → Prop} {S : St} {X : List (Nat × Nat × Nat)} {t : Nat}

theorem Good.rel3 (h : Good E S X t) (ht : t ≤ 1000) {c p : Nat} (hc : c < 64) (hp : cP S c p) (hu : getP S p 1 = 0) :
    Lk S (getP S p 4) ∧ Lk S (getP (unlink1 S (3 + c) p) p 5) ∧ Good (fun q => E q ∧ q ≠ p) (rel3 S c p) X (t + 1) := by
  have hcap := cap_bounds c hc
  have hpp : pP S c p := ⟨hp.1, hp.2, by rw [hu]; omega⟩
  obtain ⟨us, hd, rl, hP, _⟩ := h.pg p c hc hp
  have hus : us = 0 := by have := hP.eu; omega
  have hX : ∀ x, x ∈ X → x.1 ≠ p := fun x hx e => by
    have h0 : X.countP (fun x => x.1 == p) = 0 := by rw [← hP.cnt, hus]
    rw [List.countP_eq_zero] at h0
    exact h0 x hx (by simpa using e)
  obtain ⟨np, hPl⟩ := h.part c hc
  have hlk := lst_lk h ht hPl (fun q hq => hq.1) hpp
  obtain ⟨n0, hw0, hb0, hF⟩ := h.free
  obtain ⟨m, hm, hPu⟩ := hPl.unlink hpp
  have hget := fun q f hf => rel3_get S c p q f hf
  have hfp : ¬ fP S p := fun hq => by
    have := hq.2
    rw [hp.2] at this
    omega
  have hfd : ∀ q, fP S q → ¬ pP S c q := fun q hq hq2 => by
    have e := hq2.2.1
    rw [hq.2] at e
    omega
  have m45 : ∀ q f, f = 4 ∨ f = 5 → getP (mid3 S c p) q f = getP (unlinkS S (3 + c) p) q f := fun q f hf => by rw [mid3_get _ _ _ _ _ (by omega), if_neg (by omega)]
  have hmid : ∀ i M n, Lst (unlinkS S (3 + c) p) i M n → i ≠ 91 + c → Lst (mid3 S c p) i M n := fun i M n hl hi => hl.frame (mid3_w _ _ _ _ hi) (fun q _ => ⟨m45 q 4 (.inl rfl), m45 q 5 (.inr rfl)⟩)
  have hFm := hmid _ _ _ (hF.unlinkOther hPl (by omega) hpp hfd) (by omega)
  have hfin : ∀ i M n, Lst (linkS (mid3 S c p) 179 p) i M n → i ≠ 180 → Lst (Ybulkcqic.rel3 S c p) i M n := fun i M n hl hi => hl.frame (rel3_wj _ _ _ _ hi) (fun q _ => ⟨rel3_45 _ _ _ _ _ (by omega), rel3_45 _ _ _ _ _ (by omega)⟩)
  obtain ⟨r1, r2, r3⟩ := rel3_nb S c p
  have hlv : ∀ q, Live (Ybulkcqic.rel3 S c p) q ↔ Live S q := fun q => by
    unfold Live
    rw [r1, r2]
  have hcP : ∀ c' q, c' < 64 → (cP (Ybulkcqic.rel3 S c p) c' q ↔ cP S c' q ∧ q ≠ p) := fun c' q hc' => by
    unfold cP
    rw [hlv q, hget q 0 (by omega)]
    by_cases e : q = p
    · rw [if_pos ⟨e, rfl⟩]
      exact ⟨fun hx => absurd hx.2 (by omega), fun hx => absurd e hx.2⟩
    · rw [if_neg (fun h => e h.1)]
      exact ⟨fun hx => ⟨hx, e⟩, fun hx => hx.1⟩
  have hwj : ∀ j, j ≠ 180 → j ≠ 179 → j ≠ 91 + c → j ≠ 3 + c → (Ybulkcqic.rel3 S c p).w j = S.w j := fun j g1 g2 g3 g4 => by
    rw [rel3_wj _ _ _ _ g1, linkS_w _ _ _ _ g2, mid3_w _ _ _ _ g3, unlinkS_w _ _ _ _ g4]
  refine ⟨hlk.1, by rw [unlink1_nx hPl hpp]; exact hlk.2, ⟨?_, ⟨n0 + 1, ?_, by omega, ?_⟩, fun c' hc' => ?_, fun c' hc' => ?_, fun c' g1 g2 => ?_, fun q hq => ?_, fun i hi hl => ?_, fun q c' hc' hq => ?_, fun x hx => ?_, h.nd⟩⟩
  · rw [r1]
    exact Nat.le_succ_of_le h.nb
  · rw [rel3_w180 _ _ _ hc, hw0, w64 _ (by omega)]
    omega
  · refine (hfin _ _ _ (hFm.link hfp) (by omega)).congr (fun q => ?_)
    show q = p ∨ fP S q ↔ fP (Ybulkcqic.rel3 S c p) q
    unfold fP
    rw [hlv q, hget q 0 (by omega)]
    by_cases e : q = p
    · rw [if_pos ⟨e, rfl⟩]
      exact ⟨fun _ => ⟨e ▸ hp.1, rfl⟩, fun _ => .inl e⟩
    · rw [if_neg (fun h => e h.1)]
      exact ⟨fun hx => hx.elim (fun hx => absurd hx e) id, .inr⟩
  · by_cases ec : c' = c
    · subst ec
      refine ⟨m, (hfin _ _ _ ((hmid _ _ _ hPu (by omega)).linkOther hFm (by omega) (fun hq => hq.2 rfl) hfp (fun q hq hq2 => hfd q hq2 hq.1)) (by omega)).congr (fun q => ?_)⟩
      show pP S c' q ∧ q ≠ p ↔ pP (Ybulkcqic.rel3 S c' p) c' q
      unfold pP
      rw [hlv q, hget q 0 (by omega), hget q 1 (by omega)]
      by_cases e : q = p
      · rw [if_pos ⟨e, rfl⟩]
        exact ⟨fun hx => absurd e hx.2, fun hx => absurd hx.2.1 (by omega)⟩
      · rw [if_neg (fun h => e h.1), if_neg (fun h => e h.1)]
        exact ⟨fun hx => hx.1, fun hx => ⟨hx, e⟩⟩
    · have hcc : ¬ ((c : Int) = (c' : Int)) := fun e3 => ec (Int.ofNat.inj e3).symm
      obtain ⟨n', hn'⟩ := h.part c' hc'
      have hnp : ¬ pP S c' p := fun hq => hcc (hp.2.symm.trans hq.2.1)
      refine ⟨n', (hfin _ _ _ ((hmid _ _ _ (hn'.unlinkOther hPl (by omega) hpp (fun q hq hq2 => hcc (hq2.2.1.symm.trans hq.2.1))) (by omega)).linkOther hFm (by omega) hnp hfp (fun q hq hq2 => ?_)) (by omega)).congr (fun q => ?_)⟩
      · have e := hq.2.1
        rw [hq2.2] at e
        omega
      · unfold pP
        rw [hlv q, hget q 0 (by omega), hget q 1 (by omega)]
        by_cases e : q = p
        · rw [if_pos ⟨e, rfl⟩]
          exact ⟨fun hx => absurd (e ▸ hx) hnp, fun hx => absurd hx.2.1 (by omega)⟩
        · rw [if_neg (fun h => e h.1), if_neg (fun h => e h.1)]
  · obtain ⟨l, g1, g2, g3, g4⟩ := h.cls c' hc'
    by_cases ec : c' = c
    · subst ec
      have hpl : p ∈ l := (g2 p).2 hp
      have hlen := List.length_erase_of_mem hpl
      have hpos := List.length_pos_of_mem hpl
      refine ⟨l.erase p, g1.erase p, fun q => ?_, ?_, by omega⟩
      · rw [g1.mem_erase_iff, g2 q, hcP c' q hc']
        exact ⟨fun hx => ⟨hx.2, hx.1⟩, fun hx => ⟨hx.2, hx.1⟩⟩
      · rw [rel3_wj _ _ _ _ (by omega), linkS_w _ _ _ _ (by omega)]
        show (setH (unlinkS S (3 + c') p) (91 + c') (wrap32 ((unlinkS S (3 + c') p).w (91 + c') - 1))).w (91 + c') = _
        rw [setH_same, unlinkS_w _ _ _ _ (by omega), g3, w32 _ (by omega), hlen]
        omega
    · have hcc : ¬ ((c : Int) = (c' : Int)) := fun e3 => ec (Int.ofNat.inj e3).symm
      refine ⟨l, g1, fun q => ?_, by rw [hwj _ (by omega) (by omega) (by omega) (by omega), g3], by omega⟩
      rw [hcP c' q hc', g2 q]
      exact ⟨fun hx => ⟨hx, fun e => hcc (hp.2.symm.trans (e ▸ hx.2))⟩, fun hx => hx.1⟩
  · rw [hwj _ (by omega) (by omega) (by omega) (by omega), h.hi c' g1 g2]
  · rw [hget q 0 (by omega)]
    by_cases e : q = p
    · rw [if_pos ⟨e, rfl⟩]
      exact .inl rfl
    · rw [if_neg (fun h => e h.1)]
      exact h.kind q ((hlv q).1 hq)
  · rw [r1] at hi
    rw [r2] at hl
    have hb := h.bf i hi hl
    rw [rel3_fr]
    by_cases e : i = p / 8
    · subst e
      have hup := sum8_up (fun k => isF S (p / 8 * 8 + k)) (fun k => isF (Ybulkcqic.rel3 S c p) (p / 8 * 8 + k)) (p % 8) (by omega) (by
        rw [show p / 8 * 8 + p % 8 = p by omega]
        unfold isF
        rw [if_neg (by rw [hp.2]; omega)]) (by
        rw [show p / 8 * 8 + p % 8 = p by omega]
        unfold isF
        rw [show getP (Ybulkcqic.rel3 S c p) p 0 = 255 by rw [hget p 0 (by omega), if_pos ⟨rfl, rfl⟩], if_pos rfl]) (fun k hk => by
        unfold isF
        rw [show getP (Ybulkcqic.rel3 S c p) (p / 8 * 8 + k) 0 = getP S (p / 8 * 8 + k) 0 by rw [hget _ 0 (by omega), if_neg (by omega)]])
      have hle := sum8_le (fun k => isF S (p / 8 * 8 + k)) (fun k => isF_le _ _)
      rw [if_pos rfl, hb, hup, w64 _ (by omega)]
      omega
    · rw [if_neg e, hb]
      congr 1
      refine sum8_congr _ _ (fun k hk => ?_)
      unfold isF
      rw [show getP (Ybulkcqic.rel3 S c p) (i * 8 + k) 0 = getP S (i * 8 + k) 0 by rw [hget _ 0 (by omega), if_neg (by omega)]]
  · obtain ⟨hq1, hq2⟩ := (hcP c' q hc').1 hq
    obtain ⟨us', hd', rl', g1, g2⟩ := h.pg q c' hc' hq1
    exact ⟨us', hd', rl', g1.frame (fun f hf => by rw [hget q f hf, if_neg (fun h => hq2 h.1)]) (fun o => by rw [r3]), fun hn => g2 (fun he => hn ⟨he, hq2⟩)⟩
  · exact ⟨(h.xs x hx).1, (hcP _ _ (h.xs x hx).1).2 ⟨(h.xs x hx).2, hX x hx⟩⟩

theorem unlinkN_get (S : St) (n k q f : Nat) (hf : f < 4) : getP (unlinkN S n k) q f = getP S q f := by
  induction k with
  | zero => rfl
  | succ k ih => exact (unlinkS_get _ _ _ _ _ hf).trans ih
theorem unlinkN_d (S : St) (n k : Nat) : (unlinkN S n k).d = S.d := by
  induction k with
  | zero => rfl
  | succ k ih => exact (unlinkS_d _ _ _).trans ih
theorem unlinkN_fr (S : St) (n k j : Nat) : (unlinkN S n k).b j 49 = S.b j 49 := by
  induction k with
  | zero => rfl
  | succ k ih => exact (unlinkS_fr _ _ _ _).trans ih

/-- The lists, as the first k pages of block i leave the free one. -/
theorem unlinkN_free {n0 i : Nat} (hF : Lst S 179 (fP S) n0) (hall : ∀ k, k < 8 → fP S (i * 8 + k)) (k : Nat) (hk : k ≤ 8) :
    ∃ m, n0 = m + k ∧ Lst (unlinkN S i k) 179 (fun q => fP S q ∧ ¬ (i * 8 ≤ q ∧ q < i * 8 + k)) m := by
  induction k with
  | zero => exact ⟨n0, rfl, hF.congr (fun q => ⟨fun h => ⟨h, by omega⟩, fun h => h.1⟩)⟩
  | succ k ih =>
    obtain ⟨m, h1, h2⟩ := ih (by omega)
    obtain ⟨m', h3, h4⟩ := h2.unlink (p := i * 8 + k) ⟨hall k (by omega), by omega⟩
    refine ⟨m', by omega, h4.congr (fun q => ?_)⟩
    exact ⟨fun h => ⟨h.1.1, by have := h.1.2; have := h.2; omega⟩, fun h => ⟨⟨h.1, by have := h.2; omega⟩, by have := h.2; omega⟩⟩
theorem unlinkN_other {n0 i j m : Nat} {N : Nat → Prop} (hF : Lst S 179 (fP S) n0) (hall : ∀ k, k < 8 → fP S (i * 8 + k)) (hl : Lst S j N m) (hj : j ≠ 179) (hN : ∀ q, N q → ¬ fP S q) (k : Nat) (hk : k ≤ 8) : Lst (unlinkN S i k) j N m := by
  induction k with
  | zero => exact hl
  | succ k ih =>
    obtain ⟨m', _, h2⟩ := unlinkN_free hF hall k (by omega)
    exact (ih (by omega)).unlinkOther h2 hj ⟨hall k (by omega), by omega⟩ (fun q hq hq2 => hN q hq hq2.1)

theorem Good.give (h : Good E S X t) (ht : t ≤ 1000) {i : Nat} (hi : i < S.nb) (hl : S.live i = true) (h8 : S.b i 49 = 8) :
    (∀ k, k < 8 → Lk (unlinkN S i k) (getP (unlinkN S i k) (i * 8 + k) 4) ∧ Lk (unlinkN S i k) (getP (unlink1 (unlinkN S i k) 179 (i * 8 + k)) (i * 8 + k) 5)) ∧
    Good E (giveS S i) X t ∧ (giveS S i).d = S.d := by
  have hall : ∀ k, k < 8 → fP S (i * 8 + k) := fun k hk => by
    have hs : sum8 (fun k => isF S (i * 8 + k)) = 8 := by
      have := h.bf i hi hl
      omega
    have h1 := sum8_all _ (fun k => isF_le S (i * 8 + k)) hs k hk
    have hLv : Live S (i * 8 + k) := ⟨by rw [show (i * 8 + k) / 8 = i by omega]; exact hi, by rw [show (i * 8 + k) / 8 = i by omega]; exact hl⟩
    refine ⟨hLv, ?_⟩
    unfold isF at h1
    by_cases e : getP S (i * 8 + k) 0 = 255
    · exact e
    · rw [if_neg e] at h1
      omega
  have hblk : ∀ q, q / 8 = i → fP S q := fun q e => by
    have := hall (q % 8) (by omega)
    rwa [show i * 8 + q % 8 = q by omega] at this
  obtain ⟨n0, hw0, hb0, hF⟩ := h.free
  have hlvN : ∀ k q, Live (unlinkN S i k) q ↔ Live S q := fun k q => by
    unfold Live
    rw [(unlinkN_nb S i k).1, (unlinkN_nb S i k).2]
  refine ⟨fun k hk => ?_, ?_, unlinkN_d _ _ _⟩
  · obtain ⟨m, h1, h2⟩ := unlinkN_free hF hall k (by omega)
    have hmem : fP S (i * 8 + k) ∧ ¬ (i * 8 ≤ i * 8 + k ∧ i * 8 + k < i * 8 + k) := ⟨hall k hk, by omega⟩
    obtain ⟨g1, g2⟩ := h2.nbr hmem
    refine ⟨?_, ?_⟩
    · rcases g1 with g | ⟨q, hq, _, g⟩
      · exact .inl g
      · exact .inr ⟨q, g, (hlvN k q).2 hq.1.1, h.lt ht hq.1.1⟩
    · rw [unlink1_nx h2 hmem]
      rcases g2 with g | ⟨q, hq, _, g⟩
      · exact .inl g
      · exact .inr ⟨q, g, (hlvN k q).2 hq.1.1, h.lt ht hq.1.1⟩
  · obtain ⟨m, hm, hFm⟩ := unlinkN_free hF hall 8 (by omega)
    have hget : ∀ q f, f < 4 → getP (giveS S i) q f = getP S q f := fun q f hf => unlinkN_get S i 8 q f hf
    have hlv : ∀ q, Live (giveS S i) q ↔ Live S q ∧ q / 8 ≠ i := fun q => by
      show (q / 8 < (unlinkN S i 8).nb ∧ upd (unlinkN S i 8).live i false (q / 8) = true) ↔ _
      rw [(unlinkN_nb S i 8).1, (unlinkN_nb S i 8).2]
      by_cases e : q / 8 = i
      · rw [e, upd_same]
        exact ⟨fun h => absurd h.2 (by simp), fun h => absurd rfl h.2⟩
      · rw [upd_other _ _ _ _ e]
        exact ⟨fun h => ⟨h, e⟩, fun h => h.1⟩
    have hfin : ∀ j N m, Lst (unlinkN S i 8) j N m → j ≠ 180 → j ≠ 181 → Lst (giveS S i) j N m := fun j N m hL h1 h2 => by
      refine hL.frame ?_ (fun q _ => ⟨rfl, rfl⟩)
      show (setH (setH (unlinkN S i 8) 180 _) 181 _).w j = _
      rw [setH_w _ _ _ _ h2, setH_w _ _ _ _ h1]
    have hcP : ∀ c q, c < 64 → (cP (giveS S i) c q ↔ cP S c q) := fun c q hc => by
      unfold cP
      rw [hlv q, hget q 0 (by omega)]
      refine ⟨fun hx => ⟨hx.1.1, hx.2⟩, fun hx => ⟨⟨hx.1, fun e => ?_⟩, hx.2⟩⟩
      have := (hblk q e).2
      rw [hx.2] at this
      omega
    refine ⟨?_, ⟨m, ?_, by omega, ?_⟩, fun c hc => ?_, fun c hc => ?_, fun c g1 g2 => ?_, fun q hq => ?_, fun j hj hlj => ?_, fun q c hc hq => ?_, fun x hx => ?_, h.nd⟩
    · have e : (giveS S i).nb = S.nb := (unlinkN_nb S i 8).1
      rw [e]
      exact h.nb
    · show (setH (setH (unlinkN S i 8) 180 (wrap64 ((unlinkN S i 8).w 180 - 8))) 181 (wrap64 ((unlinkN S i 8).w 181 - 1))).w 180 = _
      rw [setH_w _ 181 180 _ (by omega), setH_same, unlinkN_w _ _ _ _ (by omega), hw0, w64 _ (by omega)]
      omega
    · refine (hfin _ _ _ hFm (by omega) (by omega)).congr (fun q => ?_)
      show fP S q ∧ ¬ (i * 8 ≤ q ∧ q < i * 8 + 8) ↔ fP (giveS S i) q
      unfold fP
      rw [hlv q, hget q 0 (by omega)]
      exact ⟨fun hx => ⟨⟨hx.1.1, by have := hx.2; omega⟩, hx.1.2⟩, fun hx => ⟨⟨hx.1.1, hx.2⟩, by have := hx.1.2; omega⟩⟩
    · obtain ⟨n', hn'⟩ := h.part c hc
      refine ⟨n', (hfin _ _ _ (unlinkN_other hF hall hn' (by omega) (fun q hq hq2 => ?_) 8 (by omega)) (by omega) (by omega)).congr (fun q => ?_)⟩
      · have e := hq.2.1
        rw [hq2.2] at e
        omega
      · unfold pP
        rw [hlv q, hget q 0 (by omega), hget q 1 (by omega)]
        refine ⟨fun hx => ⟨⟨hx.1, fun e => ?_⟩, hx.2⟩, fun hx => ⟨hx.1.1, hx.2⟩⟩
        have := (hblk q e).2
        rw [hx.2.1] at this
        omega
    · obtain ⟨l, g1, g2, g3, g4⟩ := h.cls c hc
      exact ⟨l, g1, fun q => (g2 q).trans (hcP c q hc).symm, by rw [giveS_w _ _ _ (by omega), g3], g4⟩
    · rw [giveS_w _ _ _ (by omega), h.hi c g1 g2]
    · rw [hget q 0 (by omega)]
      exact h.kind q ((hlv q).1 hq).1
    · have e1 : (giveS S i).nb = S.nb := (unlinkN_nb S i 8).1
      have hL := (hlv (j * 8)).1 ⟨by rw [show j * 8 / 8 = j by omega]; exact hj, by rw [show j * 8 / 8 = j by omega]; exact hlj⟩
      have hL1 := hL.1.1
      have hL2 := hL.1.2
      rw [show j * 8 / 8 = j by omega] at hL1 hL2
      have e2 : (giveS S i).b j 49 = S.b j 49 := unlinkN_fr S i 8 j
      rw [e2, h.bf j hL1 hL2]
      congr 1
      refine sum8_congr _ _ (fun k hk => ?_)
      unfold isF
      rw [hget _ 0 (by omega)]
    · have hq' := (hcP c q hc).1 hq
      obtain ⟨us', hd', rl', g1, g2⟩ := h.pg q c hc hq'
      exact ⟨us', hd', rl', g1.frame (fun f hf => hget q f hf) (fun o => by rw [show (giveS S i).d = S.d from unlinkN_d _ _ _]), g2⟩
    · exact ⟨(h.xs x hx).1, (hcP _ _ (h.xs x hx).1).2 (h.xs x hx).2⟩
end

end Go.Proofs.Ybulkcqic
