/-
  The calls of Script: alloc, release, bytes, held on slabs with live chunks.
-/
import Derived.Test.YbulkcqicLoose
import Derived.Test.YbulkcqicHeld
import Derived.Test.YbulkcqicNew
namespace Go.Proofs.Ybulkcqic
open Go.RowKit

/-- A live chunk: page, chunk, size, tag. -/
abbrev Item := Nat × Nat × Nat × Nat
def key (y : Item) : Nat × Nat × Nat := (y.1, y.2.1, y.2.2.1)
def Data (S : St) (y : Item) : Prop := ∀ o, o < 8 * (y.2.2.1 + 1) → S.d (y.1 / 8) (atC y.1 y.2.1 (8 * (y.2.2.1 + 1)) + o) = (y.2.2.2 : Int)
def No : Nat → Prop := fun _ => False
structure Shop (U : Nat → Prop) (A : Ad) (S : St) (Y : List Item) (t : Nat) (w : World) : Prop where
  r : R U A S w
  mu : S.w 1 = 0
  good : Good No S (Y.map key) t
  data : ∀ y, y ∈ Y → Data S y

theorem Good.strict {E : Nat → Prop} {S : St} {X : List (Nat × Nat × Nat)} {t : Nat} (h : Good E S X t) (hE : ∀ q, E q → getP S q 1 ≠ 0) : Good No S X t where
  nb := h.nb
  free := h.free
  part := h.part
  cls := h.cls
  hi := h.hi
  kind := h.kind
  bf := h.bf
  pg := fun q c hc hq => by
    obtain ⟨us, hd, rl, h1, h2⟩ := h.pg q c hc hq
    refine ⟨us, hd, rl, h1, fun _ => ?_⟩
    by_cases e : E q
    · have := hE q e
      rw [h1.eu] at this
      omega
    · exact h2 e
  xs := h.xs
  nd := h.nd

section
variable {S : St} {X : List (Nat × Nat × Nat)} {t : Nat}
theorem Good.took (h : Good No S X t) (ht : t ≤ 900) {c p : Nat} {S' : St} (hc : c < 64) (hk : Took S c S' p) :
    pP S' c p ∧ Good (fun q => q = p) S' X (t + 2) ∧ ∀ x, x ∈ X → S'.d (x.1 / 8) = S.d (x.1 / 8) := by
  have hcap := cap_bounds c hc
  have htk : ∀ (T : St) (t' : Nat), t' ≤ 1000 → Good No T X t' → fP T p → pP (takeS T c p) c p ∧ Good (fun q => q = p) (takeS T c p) X (t' + 1) := fun T t' ht' hT hf => by
    refine ⟨⟨(takeS_live _ _ _ _).2 hf.1, ?_, ?_⟩, (hT.take ht' hc hf).more (fun q hq => hq.elim (fun h => absurd h id) id)⟩
    · rw [takeS_get _ _ _ _ _ (by omega), if_pos rfl, if_pos rfl]
    · rw [takeS_get _ _ _ _ _ (by omega), if_pos rfl, if_neg (by omega)]
      omega
  rcases hk with ⟨h1, rfl⟩ | ⟨h1, h2, rfl⟩ | ⟨h1, h2, n, hn, hl, rfl, rfl⟩
  · obtain ⟨m, hm⟩ := h.part c hc
    refine ⟨?_, (h.more (fun q hq => absurd hq id)).mono (by omega), fun _ _ => rfl⟩
    rcases hm.head with ⟨g, _⟩ | ⟨q, hq, g⟩
    · omega
    · obtain rfl : q = p := by omega
      exact hq
  · obtain ⟨m, _, _, hm⟩ := h.free
    have hf : fP S p := by
      rcases hm.head with ⟨g, _⟩ | ⟨q, hq, g⟩
      · omega
      · obtain rfl : q = p := by omega
        exact hq
    obtain ⟨g1, g2⟩ := htk S t (by omega) h hf
    exact ⟨g1, g2.mono (by omega), fun x _ => by rw [(takeS_nb _ _ _).2.2]⟩
  · obtain ⟨f1, _, f3⟩ := h.fresh h2 hn hl
    obtain ⟨g1, g2⟩ := htk _ (t + 1) (by omega) f1 f3
    refine ⟨g1, g2, fun x hx => ?_⟩
    rw [(takeS_nb _ _ _).2.2]
    exact freeS_d _ _ _ (fun e => dead hl e (h.xs x hx).2.1)
end

theorem data_of {S S' : St} {y : Item} (h : Data S y) (hd : S'.d (y.1 / 8) = S.d (y.1 / 8)) : Data S' y := fun o ho => by rw [hd]; exact h o ho

section
variable {U : Nat → Prop} {A : Ad} {S : St} {Y : List Item} {t : Nat} {w : World}

theorem shop_alloc (h : Shop U A S Y t w) (ht : t ≤ 900) {c : Nat} (hc : c < 64) :
    Calls Yba.prog 6 #[.pointer (some ⟨A.sb, 0, none⟩), .int .i64 ((8 * (c + 1) : Nat) : Int)] w fun e w' =>
      ∃ A' S' p ch, A'.sb = A.sb ∧ e = .returned (.int .u64 ((p * 16384 + ch * (8 * (c + 1)) : Nat) : Int)) ∧ ch < cap c ∧ R U A' S' w' ∧ S'.w 1 = 0 ∧ Good No S' ((p, ch, c) :: Y.map key) (t + 2) ∧ (∀ y, y ∈ Y → Data S' y) ∧ Keep U w w' := by
  have g1 := h.good.mu 1
  have hnb := g1.nb
  have hmain : ∀ S' p, Took (setH S 1 1) c S' p → HandOk S' c p (8 * (c + 1)) ∧ chunkOf S' p < cap c ∧ Good No (handS S' c p (8 * (c + 1))) ((p, chunkOf S' p, c) :: Y.map key) (t + 2) ∧ ∀ x, x ∈ Y.map key → (handS S' c p (8 * (c + 1))).d (x.1 / 8) = S.d (x.1 / 8) := fun S' p hk => by
    obtain ⟨k1, k2, k3⟩ := g1.took ht hc hk
    obtain ⟨m1, m2, m3, m4⟩ := k2.hand (by omega) hc k1
    exact ⟨m1, m2, m3.more (fun q hq => absurd hq.1 hq.2), fun x hx => by rw [m4, k3 x hx]; rfl⟩
  refine (alloc_any h.r c (8 * (c + 1)) hc rfl h.mu (setH S 1 1) rfl (by omega) ?_ ?_ ?_ (fun S' p hk => (hmain S' p hk).1)).mono ?_
  · obtain ⟨m, hm⟩ := g1.part c hc
    rcases hm.head with ⟨g, _⟩ | ⟨q, hq, g⟩
    · exact .inl g
    · exact .inr ⟨q, g⟩
  · intro _ hne
    obtain ⟨m, _, _, hm⟩ := g1.free
    rcases hm.head with ⟨g, _⟩ | ⟨q, hq, g⟩
    · exact absurd g hne
    · exact ⟨q, g, g1.takeOk (by omega) hq⟩
  · intro _ h9 n hn hl
    obtain ⟨f1, _, f3⟩ := g1.fresh h9 hn hl
    exact f1.takeOk (by omega) f3
  · rintro e w' ⟨A', S', p, hA, hk, rfl, hR, hK⟩
    obtain ⟨_, m2, m3, m4⟩ := hmain S' p hk
    exact ⟨A', _, p, chunkOf S' p, hA, rfl, m2, hR, setH_same _ _ _, m3.mu 0, fun y hy => data_of (h.data y hy) (m4 (key y) (List.mem_map_of_mem hy)), hK⟩

theorem shop_release {p ch c tg : Nat} (h : Shop U A S ((p, ch, c, tg) :: Y) t w) (ht : t ≤ 900) :
    Calls Yba.prog 7 #[.pointer (some ⟨A.sb, 0, none⟩), .int .u64 ((p * 16384 + ch * (8 * (c + 1)) : Nat) : Int), .int .i64 ((8 * (c + 1) : Nat) : Int)] w fun e w' =>
      e = .returned (.tuple #[]) ∧ ∃ A' S', A'.sb = A.sb ∧ Shop U A' S' Y (t + 1) w' ∧ Keep U w w' := by
  have g1 : Good No (setH S 1 1) ((p, ch, c) :: Y.map key) t := h.good.mu 1
  obtain ⟨r1, r2, r3, r4, r5, r6⟩ := g1.rel12 (by omega)
  have hc : c < 64 := (g1.xs (p, ch, c) (by simp)).1
  obtain ⟨S2, hS2⟩ : ∃ x, x = rel2 (rel1 (setH S 1 1) c p (8 * (c + 1))) p ch (8 * (c + 1)) := ⟨_, rfl⟩
  rw [← hS2] at r4 r5 r6
  have hz : getP S2 p 1 = 0 → Rel4Ok S2 c p ∧ Good No (rel4 S2 c p) (Y.map key) (t + 1) ∧ (rel4 S2 c p).d = S2.d := fun hu => by
    obtain ⟨k1, k2, k3⟩ := r4.rel3 (by omega) hc r5 hu
    have k4 : Good No (rel3 S2 c p) (Y.map key) (t + 1) := k3.more (fun q hq => (hq.1.elim (fun h => absurd h id) (fun e => absurd e hq.2)))
    have hnb := r4.nb
    have hlv : Live (rel3 S2 c p) p := by
      unfold Live
      rw [(rel3_nb S2 c p).1, (rel3_nb S2 c p).2.1]
      exact r5.1
    refine ⟨⟨k1, k2, r4.lkF (by omega), by omega, fun h8 _ => (k4.give (by omega) hlv.1 hlv.2 h8).1⟩, ?_, ?_⟩
    · unfold rel4
      simp only []
      split
      · rename_i h8
        exact (k4.give (by omega) hlv.1 hlv.2 h8.1).2.1
      · exact k4
    · unfold rel4
      simp only []
      split
      · rename_i h8
        rw [(k4.give (by omega) hlv.1 hlv.2 h8.1).2.2, (rel3_nb S2 c p).2.2]
      · exact (rel3_nb S2 c p).2.2
  refine (release_any h.r c p ch (8 * (c + 1)) _ hc (by omega) (by omega) rfl h.mu (setH S 1 1) rfl r1 (fun hu => ?_)).mono ?_
  · rw [← hS2] at hu ⊢
    exact (hz hu).1
  · rintro e w' ⟨rfl, A', hA, hR, hK⟩
    have hfin : Good No (relS (setH S 1 1) c p ch (8 * (c + 1))) (Y.map key) (t + 1) ∧ (relS (setH S 1 1) c p ch (8 * (c + 1))).d = S2.d := by
      unfold relS
      simp only []
      rw [← hS2]
      split
      · rename_i hu
        exact (hz hu).2
      · rename_i hu
        exact ⟨(r4.strict (fun q hq => hq.elim (fun h => absurd h id) (fun e => by rw [e]; exact hu))).mono (by omega), rfl⟩
    refine ⟨rfl, A', _, hA, ⟨hR, setH_same _ _ _, hfin.1.mu 0, fun y hy o ho => ?_⟩, hK⟩
    show (relS (setH S 1 1) c p ch (8 * (c + 1))).d _ _ = _
    rw [hfin.2, r6 y.1 y.2.1 y.2.2.1 (List.mem_map_of_mem (f := key) hy) o ho]
    exact h.data y (by simp [hy]) o ho
end

end Go.Proofs.Ybulkcqic
