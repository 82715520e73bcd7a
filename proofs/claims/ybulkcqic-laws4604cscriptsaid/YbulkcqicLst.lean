/-
  The doubly linked lists of pages.
-/
import Derived.Test.YbulkcqicView
namespace Go.Proofs.Ybulkcqic
open Go.RowKit

def hdv : List Nat → Int
  | [] => -1
  | p :: _ => p
def lastv : Int → List Nat → Int
  | pr, [] => pr
  | _, p :: t => lastv p t
def Seg (g : Nat → Nat → Int) : Int → List Nat → Prop
  | _, [] => True
  | pr, p :: t => g p 4 = pr ∧ g p 5 = hdv t ∧ Seg g p t

theorem hdv_mem (l : List Nat) : hdv l = -1 ∨ ∃ q, q ∈ l ∧ hdv l = (q : Int) := by
  cases l with
  | nil => exact .inl rfl
  | cons p t => exact .inr ⟨p, by simp, rfl⟩
theorem lastv_mem (l : List Nat) (pr : Int) : lastv pr l = pr ∧ l = [] ∨ ∃ q, q ∈ l ∧ lastv pr l = (q : Int) := by
  induction l generalizing pr with
  | nil => exact .inl ⟨rfl, rfl⟩
  | cons p t ih =>
    rcases ih (p : Int) with ⟨h, _⟩ | ⟨q, hq, h⟩
    · exact .inr ⟨p, by simp, h⟩
    · exact .inr ⟨q, by simp [hq], h⟩
theorem seg_congr {g g' : Nat → Nat → Int} (l : List Nat) (pr : Int) (h : ∀ q, q ∈ l → g' q 4 = g q 4 ∧ g' q 5 = g q 5) (hs : Seg g pr l) : Seg g' pr l := by
  induction l generalizing pr with
  | nil => trivial
  | cons p t ih => exact ⟨(h p (by simp)).1.trans hs.1, (h p (by simp)).2.trans hs.2.1, ih p (fun q hq => h q (by simp [hq])) hs.2.2⟩
theorem seg_at {g : Nat → Nat → Int} {p : Nat} {l2 : List Nat} (l1 : List Nat) (pr : Int) (hs : Seg g pr (l1 ++ p :: l2)) : g p 4 = lastv pr l1 ∧ g p 5 = hdv l2 := by
  induction l1 generalizing pr with
  | nil => exact ⟨hs.1, hs.2.1⟩
  | cons x t ih => exact ih x hs.2.2

theorem seg_unlink {g g' : Nat → Nat → Int} {p : Nat} {l2 : List Nat} (A B : Int) (hA : g p 4 = A) (hB : g p 5 = B)
    (hg : ∀ q f, q ≠ p → (f = 4 ∨ f = 5) → g' q f = if f = 5 ∧ A = (q : Int) then B else if f = 4 ∧ B = (q : Int) then A else g q f)
    (l1 : List Nat) (pr : Int) (hs : Seg g pr (l1 ++ p :: l2)) (hn : (l1 ++ p :: l2).Nodup) (hpr : ∀ q, q ∈ l1 ++ p :: l2 → (q : Int) ≠ pr) : Seg g' pr (l1 ++ l2) := by
  induction l1 generalizing pr with
  | nil =>
    have hn' : (p :: l2).Nodup := hn
    rw [List.nodup_cons] at hn'
    cases l2 with
    | nil => trivial
    | cons q t =>
      have hn2 := List.nodup_cons.1 hn'.2
      have hqp : q ≠ p := fun e => hn'.1 (by simp [e])
      have eA : A = pr := hA.symm.trans hs.1
      have eB : B = (q : Int) := hB.symm.trans hs.2.1
      have hs2 : Seg g p (q :: t) := hs.2.2
      have hqr : (q : Int) ≠ pr := hpr q (by simp)
      refine ⟨?_, ?_, seg_congr t q (fun r hr => ?_) hs2.2.2⟩
      · rw [hg q 4 hqp (.inl rfl), if_neg (by omega), if_pos ⟨rfl, eB⟩, eA]
      · rw [hg q 5 hqp (.inr rfl), if_neg (fun h => hqr (h.2.symm.trans eA)), if_neg (by omega), hs2.2.1]
      · have hrp : r ≠ p := fun e => hn'.1 (by rw [← e]; simp [hr])
        have hrq : r ≠ q := fun e => hn2.1 (by rw [← e]; exact hr)
        have hrr : (r : Int) ≠ pr := hpr r (by simp [hr])
        refine ⟨?_, ?_⟩
        · rw [hg r 4 hrp (.inl rfl), if_neg (by omega), if_neg (by omega)]
        · rw [hg r 5 hrp (.inr rfl), if_neg (fun h => hrr (h.2.symm.trans eA)), if_neg (by omega)]
  | cons x l1 ih =>
    have hn' : (x :: (l1 ++ p :: l2)).Nodup := hn
    rw [List.nodup_cons] at hn'
    have hs' : g x 4 = pr ∧ g x 5 = hdv (l1 ++ p :: l2) ∧ Seg g x (l1 ++ p :: l2) := hs
    have hat := seg_at l1 x hs'.2.2
    have hxp : x ≠ p := fun e => hn'.1 (by simp [e])
    have hBx : B ≠ (x : Int) := fun e => by
      rw [← hB, hat.2] at e
      rcases hdv_mem l2 with h | ⟨q, hq, h⟩
      · omega
      · have : x = q := by omega
        exact hn'.1 (by rw [this]; simp [hq])
    refine ⟨?_, ?_, ih x hs'.2.2 hn'.2 (fun q hq e => hn'.1 ((show q = x by omega) ▸ hq))⟩
    · rw [hg x 4 hxp (.inl rfl), if_neg (by omega), if_neg (fun h => hBx h.2), hs'.1]
    · cases l1 with
      | nil =>
        have eA : A = (x : Int) := hA.symm.trans hat.1
        rw [hg x 5 hxp (.inr rfl), if_pos ⟨rfl, eA⟩, ← hB, hat.2]
        rfl
      | cons y t =>
        have hAx : A ≠ (x : Int) := fun e => by
          rw [← hA, hat.1] at e
          rcases lastv_mem (y :: t) x with ⟨_, h⟩ | ⟨q, hq, h⟩
          · exact absurd h (by simp)
          · have e2 : x = q := by omega
            exact hn'.1 (by rw [e2]; exact List.mem_append_left _ hq)
        rw [hg x 5 hxp (.inr rfl), if_neg (fun h => hAx h.2), if_neg (by omega), hs'.2.1]
        rfl

/-- The list at cell i holds the pages of M, n of them. -/
def Lst (S : St) (i : Nat) (M : Nat → Prop) (n : Nat) : Prop := ∃ l : List Nat, l.Nodup ∧ S.w i = hdv l ∧ Seg (getP S) (-1) l ∧ (∀ q, q ∈ l ↔ M q) ∧ l.length = n

theorem Lst.congr {S : St} {i n : Nat} {M M' : Nat → Prop} (h : Lst S i M n) (hm : ∀ q, M q ↔ M' q) : Lst S i M' n := by
  obtain ⟨l, h1, h2, h3, h4, h5⟩ := h
  exact ⟨l, h1, h2, h3, fun q => (h4 q).trans (hm q), h5⟩
theorem Lst.frame {S S' : St} {i n : Nat} {M : Nat → Prop} (h : Lst S i M n) (hw : S'.w i = S.w i) (hg : ∀ q, M q → getP S' q 4 = getP S q 4 ∧ getP S' q 5 = getP S q 5) : Lst S' i M n := by
  obtain ⟨l, h1, h2, h3, h4, h5⟩ := h
  exact ⟨l, h1, hw.trans h2, seg_congr l _ (fun q hq => hg q ((h4 q).1 hq)) h3, h4, h5⟩
theorem Lst.head {S : St} {i n : Nat} {M : Nat → Prop} (h : Lst S i M n) : (S.w i = -1 ∧ ∀ q, ¬ M q) ∨ ∃ q, M q ∧ S.w i = (q : Int) := by
  obtain ⟨l, h1, h2, h3, h4, h5⟩ := h
  cases l with
  | nil => exact .inl ⟨h2, fun q hq => by simpa using (h4 q).2 hq⟩
  | cons p t => exact .inr ⟨p, (h4 p).1 (by simp), h2⟩
theorem Lst.nbr {S : St} {i n : Nat} {M : Nat → Prop} (h : Lst S i M n) {p : Nat} (hp : M p) :
    (getP S p 4 = -1 ∨ ∃ q, M q ∧ q ≠ p ∧ getP S p 4 = (q : Int)) ∧ (getP S p 5 = -1 ∨ ∃ q, M q ∧ q ≠ p ∧ getP S p 5 = (q : Int)) := by
  obtain ⟨l, h1, h2, h3, h4, h5⟩ := h
  obtain ⟨l1, l2, rfl⟩ := List.append_of_mem ((h4 p).2 hp)
  obtain ⟨ha, hb⟩ := seg_at l1 _ h3
  rw [List.nodup_append] at h1
  obtain ⟨n1, n2, n3⟩ := h1
  rw [List.nodup_cons] at n2
  refine ⟨?_, ?_⟩
  · rcases lastv_mem l1 (-1) with ⟨h, _⟩ | ⟨q, hq, h⟩
    · exact .inl (ha.trans h)
    · exact .inr ⟨q, (h4 q).1 (by simp [hq]), n3 q hq p (by simp), ha.trans h⟩
  · rcases hdv_mem l2 with h | ⟨q, hq, h⟩
    · exact .inl (hb.trans h)
    · exact .inr ⟨q, (h4 q).1 (by simp [hq]), fun e => n2.1 (by rw [← e]; exact hq), hb.trans h⟩
theorem Lst.pos {S : St} {i n : Nat} {M : Nat → Prop} (h : Lst S i M n) {p : Nat} (hp : M p) : 0 < n := by
  obtain ⟨l, h1, h2, h3, h4, rfl⟩ := h
  exact List.length_pos_of_mem ((h4 p).2 hp)
theorem Lst.empty {S : St} {i n : Nat} {M : Nat → Prop} (h : Lst S i M n) (hm : ∀ q, ¬ M q) : n = 0 := by
  obtain ⟨l, h1, h2, h3, h4, rfl⟩ := h
  cases l with
  | nil => rfl
  | cons p t => exact absurd ((h4 p).1 (by simp)) (hm p)

theorem Lst.link {S : St} {i n : Nat} {M : Nat → Prop} (h : Lst S i M n) {p : Nat} (hp : ¬ M p) : Lst (linkS S i p) i (fun q => q = p ∨ M q) (n + 1) := by
  obtain ⟨l, h1, h2, h3, h4, h5⟩ := h
  have hpl : p ∉ l := fun e => hp ((h4 p).1 e)
  have h0 : S.w i = -1 ∨ 0 ≤ S.w i := by
    rw [h2]
    rcases hdv_mem l with h | ⟨q, _, h⟩
    · exact .inl h
    · exact .inr (by omega)
  have hne : S.w i ≠ p := by
    rw [h2]
    rcases hdv_mem l with h | ⟨q, hq, h⟩
    · omega
    · intro e
      have : p = q := by omega
      exact hpl (by rw [this]; exact hq)
  have hpv := fun q f hf => linkS_pv S i p q f hf h0 hne
  refine ⟨p :: l, List.nodup_cons.2 ⟨hpl, h1⟩, linkS_hd _ _ _, ⟨?_, ?_, ?_⟩, fun q => ?_, by simp [h5]⟩
  · rw [hpv p 4 (by omega), if_pos rfl, if_pos rfl]
  · rw [hpv p 5 (by omega), if_pos rfl, if_neg (by omega), if_pos rfl, h2]
  · cases l with
    | nil => trivial
    | cons q t =>
      have hq : S.w i = (q : Int) := h2
      have hn := List.nodup_cons.1 h1
      have hqp : q ≠ p := fun e => hpl (by simp [e])
      refine ⟨?_, ?_, seg_congr t q (fun r hr => ?_) h3.2.2⟩
      · rw [hpv q 4 (by omega), if_neg hqp, if_pos ⟨rfl, hq⟩]
      · rw [hpv q 5 (by omega), if_neg hqp, if_neg (by omega), h3.2.1]
      · have hrp : r ≠ p := fun e => hpl (by rw [← e]; simp [hr])
        have hrq : r ≠ q := fun e => hn.1 (by rw [← e]; exact hr)
        exact ⟨by rw [hpv r 4 (by omega), if_neg hrp, if_neg (by omega)], by rw [hpv r 5 (by omega), if_neg hrp, if_neg (by omega)]⟩
  · rw [List.mem_cons, h4 q]

theorem Lst.unlink {S : St} {i n : Nat} {M : Nat → Prop} (h : Lst S i M n) {p : Nat} (hp : M p) : ∃ m, n = m + 1 ∧ Lst (unlinkS S i p) i (fun q => M q ∧ q ≠ p) m := by
  have hnb := h.nbr hp
  obtain ⟨l, h1, h2, h3, h4, h5⟩ := h
  obtain ⟨l1, l2, rfl⟩ := List.append_of_mem ((h4 p).2 hp)
  obtain ⟨ha, hb⟩ := seg_at l1 _ h3
  have hpv := fun q f hf => unlinkS_pv S i p q f hf _ _ rfl rfl (by rcases hnb.1 with h | ⟨q, _, _, h⟩ <;> omega) (by rcases hnb.2 with h | ⟨q, _, _, h⟩ <;> omega) (by rcases hnb.1 with h | ⟨q, _, _, h⟩ <;> omega) (by rcases hnb.2 with h | ⟨q, _, _, h⟩ <;> omega)
  have hsg := seg_unlink (g := getP S) (g' := getP (unlinkS S i p)) _ _ rfl rfl (fun q f hq hf => by rw [hpv q f (by omega), if_neg hq]) l1 (-1) h3 h1 (fun q _ => by omega)
  have hn := h1
  rw [List.nodup_append] at hn
  obtain ⟨n1, n2, n3⟩ := hn
  have n2' := List.nodup_cons.1 n2
  refine ⟨(l1 ++ l2).length, by rw [← h5]; simp; omega, l1 ++ l2, ?_, ?_, hsg, fun q => ?_, rfl⟩
  · rw [List.nodup_append]
    exact ⟨n1, n2'.2, fun a ha b hb => n3 a ha b (by simp [hb])⟩
  · rw [unlinkS_hd]
    cases l1 with
    | nil => rw [if_pos (show getP S p 4 = -1 from ha), hb]; rfl
    | cons x t =>
      have : getP S p 4 ≠ -1 := by
        rw [ha]
        rcases lastv_mem (x :: t) (-1) with ⟨_, h⟩ | ⟨q, _, h⟩
        · exact absurd h (by simp)
        · omega
      rw [if_neg this, h2]
      rfl
  · show q ∈ l1 ++ l2 ↔ M q ∧ q ≠ p
    rw [← h4 q]
    simp only [List.mem_append, List.mem_cons]
    refine ⟨fun hq => ⟨hq.elim .inl fun h => .inr (.inr h), fun e => ?_⟩, fun ⟨hq, hne⟩ => hq.elim .inl fun h => h.elim (fun e => absurd e hne) .inr⟩
    rw [e] at hq
    exact hq.elim (fun h => n3 p h p (by simp) rfl) n2'.1

theorem Lst.linkOther {S : St} {i j n m : Nat} {M N : Nat → Prop} (h : Lst S j N m) (hi : Lst S i M n) (hj : j ≠ i) {p : Nat} (hp : ¬ N p) (hpM : ¬ M p) (hd : ∀ q, N q → ¬ M q) : Lst (linkS S i p) j N m := by
  have h0 : S.w i = -1 ∨ 0 ≤ S.w i := by rcases hi.head with ⟨h, _⟩ | ⟨q, _, h⟩ <;> omega
  have hne : S.w i ≠ p := by
    rcases hi.head with ⟨h, _⟩ | ⟨q, hq, h⟩
    · omega
    · intro e
      have : q = p := by omega
      exact hpM (this ▸ hq)
  refine h.frame (linkS_w _ _ _ _ hj) (fun q hq => ?_)
  have hqp : q ≠ p := fun e => hp (e ▸ hq)
  have hqh : S.w i ≠ (q : Int) := by
    rcases hi.head with ⟨h, _⟩ | ⟨r, hr, h⟩
    · omega
    · intro e
      have : r = q := by omega
      exact hd q hq (this ▸ hr)
  exact ⟨by rw [linkS_pv S i p q 4 (by omega) h0 hne, if_neg hqp, if_neg (fun h => hqh h.2)], by rw [linkS_pv S i p q 5 (by omega) h0 hne, if_neg hqp, if_neg (by omega)]⟩

theorem Lst.unlinkOther {S : St} {i j n m : Nat} {M N : Nat → Prop} (h : Lst S j N m) (hi : Lst S i M n) (hj : j ≠ i) {p : Nat} (hp : M p) (hd : ∀ q, N q → ¬ M q) : Lst (unlinkS S i p) j N m := by
  have hnb := hi.nbr hp
  have hpv := fun q f hf => unlinkS_pv S i p q f hf _ _ rfl rfl (by rcases hnb.1 with h | ⟨q, _, _, h⟩ <;> omega) (by rcases hnb.2 with h | ⟨q, _, _, h⟩ <;> omega) (by rcases hnb.1 with h | ⟨q, _, _, h⟩ <;> omega) (by rcases hnb.2 with h | ⟨q, _, _, h⟩ <;> omega)
  refine h.frame (unlinkS_w _ _ _ _ hj) (fun q hq => ?_)
  have hqp : q ≠ p := fun e => hd q hq (e ▸ hp)
  have ha : getP S p 4 ≠ (q : Int) := by
    rcases hnb.1 with h | ⟨r, hr, _, h⟩
    · omega
    · intro e
      have : r = q := by omega
      exact hd q hq (this ▸ hr)
  have hb : getP S p 5 ≠ (q : Int) := by
    rcases hnb.2 with h | ⟨r, hr, _, h⟩
    · omega
    · intro e
      have : r = q := by omega
      exact hd q hq (this ▸ hr)
  exact ⟨by rw [hpv q 4 (by omega), if_neg hqp, if_neg (by omega), if_neg (fun h => hb h.2)], by rw [hpv q 5 (by omega), if_neg hqp, if_neg (fun h => ha h.2), if_neg (by omega)]⟩

end Go.Proofs.Ybulkcqic
