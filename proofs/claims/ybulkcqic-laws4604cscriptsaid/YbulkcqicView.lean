/-
  What link, unlink and their like turn, cell by cell.
-/
import Derived.Test.YbulkcqicRelease
namespace Go.Proofs.Ybulkcqic
open Go.RowKit

theorem getP_setP (S : St) (r g : Nat) (v : Int) (q f : Nat) (hf : f < 6) (hg : g < 6) : getP (setP S r g v) q f = if q = r ∧ f = g then v else getP S q f := by
  by_cases h : q = r ∧ f = g
  · obtain ⟨rfl, rfl⟩ := h
    rw [if_pos ⟨rfl, rfl⟩, getP_setP_same]
  · rw [if_neg h, getP_setP_other _ _ _ _ _ _ hf hg h]

theorem linkS_pv (S : St) (i p q f : Nat) (hf : f < 6) (h0 : S.w i = -1 ∨ 0 ≤ S.w i) (hne : S.w i ≠ p) :
    getP (linkS S i p) q f = if q = p then (if f = 4 then -1 else if f = 5 then S.w i else getP S q f) else if f = 4 ∧ S.w i = (q : Int) then (p : Int) else getP S q f := by
  unfold linkS
  simp only []
  rw [getP_setH]
  by_cases h : S.w i = -1
  · rw [if_pos h, getP_setP _ _ _ _ _ _ hf (by omega), getP_setP _ _ _ _ _ _ hf (by omega)]
    by_cases hq : q = p
    · by_cases h4 : f = 4
      · simp [hq, h4]
      · by_cases h5 : f = 5
        · simp [hq, h5]
        · simp [hq, h4, h5]
    · have : ¬ (S.w i = (q : Int)) := by omega
      simp [hq, this]
  · rw [if_neg h, getP_setP _ _ _ _ _ _ hf (by omega), getP_setP _ _ _ _ _ _ hf (by omega), getP_setP _ _ _ _ _ _ hf (by omega)]
    by_cases hq : q = p
    · have h1 : ¬ (q = (S.w i).toNat) := by omega
      by_cases h4 : f = 4
      · simp [hq, h4]
        omega
      · by_cases h5 : f = 5
        · simp [hq, h5]
        · simp [hq, h4, h5]
    · by_cases h4 : f = 4
      · by_cases h1 : S.w i = (q : Int)
        · have h2 : q = (S.w i).toNat := by omega
          rw [if_pos ⟨h2, h4⟩, if_neg hq, if_pos ⟨h4, h1⟩]
        · have h2 : ¬ q = (S.w i).toNat := by omega
          simp [hq, h2, h1]
      · simp [hq, h4]

theorem unlinkS_pv (S : St) (i p q f : Nat) (hf : f < 6) (a b : Int) (ha : getP S p 4 = a) (hb : getP S p 5 = b) (ha0 : a = -1 ∨ 0 ≤ a) (hb0 : b = -1 ∨ 0 ≤ b) (ha1 : a ≠ p) (hb1 : b ≠ p) :
    getP (unlinkS S i p) q f = if q = p then (if f = 4 ∨ f = 5 then -1 else getP S q f) else if f = 5 ∧ a = (q : Int) then b else if f = 4 ∧ b = (q : Int) then a else getP S q f := by
  have e1 : ∀ q f, f < 6 → getP (unlink1 S i p) q f = if f = 5 ∧ a = (q : Int) then b else getP S q f := fun q f hf => by
    unfold unlink1
    rw [ha, hb]
    by_cases h : a = -1
    · rw [if_pos h, getP_setH, if_neg (by omega)]
    · rw [if_neg h, getP_setP _ _ _ _ _ _ hf (by omega)]
      by_cases h5 : f = 5
      · by_cases h1 : a = (q : Int)
        · rw [if_pos ⟨by omega, h5⟩, if_pos ⟨h5, h1⟩]
        · rw [if_neg (by omega), if_neg (by omega)]
      · rw [if_neg (by omega), if_neg (by omega)]
  have e5 : getP (unlink1 S i p) p 5 = b := by rw [e1 p 5 (by omega), if_neg (by omega), hb]
  have e4 : getP (unlink1 S i p) p 4 = a := by rw [e1 p 4 (by omega), if_neg (by omega), ha]
  have e2 : getP (unlink2 (unlink1 S i p) p) q f = if f = 4 ∧ b = (q : Int) then a else getP (unlink1 S i p) q f := by
    unfold unlink2
    rw [e5, e4]
    by_cases h : b = -1
    · rw [if_pos h, if_neg (by omega)]
    · rw [if_neg h, getP_setP _ _ _ _ _ _ hf (by omega)]
      by_cases h4 : f = 4
      · by_cases h1 : b = (q : Int)
        · rw [if_pos ⟨by omega, h4⟩, if_pos ⟨h4, h1⟩]
        · rw [if_neg (by omega), if_neg (by omega)]
      · rw [if_neg (by omega), if_neg (by omega)]
  unfold unlinkS
  rw [getP_setP _ _ _ _ _ _ hf (by omega), getP_setP _ _ _ _ _ _ hf (by omega), e2, e1 q f hf]
  by_cases hq : q = p
  · by_cases h4 : f = 4
    · simp [hq, h4]
    · by_cases h5 : f = 5
      · simp [hq, h5]
      · simp [hq, h4, h5]
  · rw [if_neg (by omega), if_neg (by omega), if_neg hq]
    by_cases h4 : f = 4
    · simp [h4]
    · simp [h4]

theorem unlinkS_hd (S : St) (i p : Nat) : (unlinkS S i p).w i = if getP S p 4 = -1 then getP S p 5 else S.w i := by
  have e2 : (unlinkS S i p).w i = (unlink1 S i p).w i := by
    unfold unlinkS unlink2
    split <;> rfl
  rw [e2]
  unfold unlink1
  split
  · simp [setH, upd]
  · rfl
theorem unlinkS_d (S : St) (i p : Nat) : (unlinkS S i p).d = S.d := by
  unfold unlinkS unlink2 unlink1
  split <;> split <;> rfl
theorem linkS_d (S : St) (i p : Nat) : (linkS S i p).d = S.d := by
  unfold linkS
  simp only []
  split <;> rfl
theorem setP_fr (S : St) (p f : Nat) (v : Int) (i : Nat) (hf : f < 6) : (setP S p f v).b i 49 = S.b i 49 := by
  unfold setP
  exact upd2_other _ _ _ _ _ _ (by omega)
theorem unlinkS_fr (S : St) (i p j : Nat) : (unlinkS S i p).b j 49 = S.b j 49 := by
  unfold unlinkS
  rw [setP_fr _ _ _ _ _ (by omega), setP_fr _ _ _ _ _ (by omega)]
  unfold unlink2 unlink1
  split
  · split
    · rfl
    · rw [setP_fr _ _ _ _ _ (by omega)]
      rfl
  · split
    · rw [setP_fr _ _ _ _ _ (by omega)]
    · rw [setP_fr _ _ _ _ _ (by omega), setP_fr _ _ _ _ _ (by omega)]
theorem linkS_fr (S : St) (i p j : Nat) : (linkS S i p).b j 49 = S.b j 49 := by
  unfold linkS
  simp only []
  show (St.b _ j 49) = _
  unfold setH
  simp only []
  split
  · rw [setP_fr _ _ _ _ _ (by omega), setP_fr _ _ _ _ _ (by omega)]
  · rw [setP_fr _ _ _ _ _ (by omega), setP_fr _ _ _ _ _ (by omega), setP_fr _ _ _ _ _ (by omega)]
theorem getP_setF (S : St) (i : Nat) (v : Int) (q f : Nat) (hf : f < 6) : getP (setF S i v) q f = getP S q f := by
  unfold getP setF
  exact upd2_other _ _ _ _ _ _ (by omega)
theorem setF_fr (S : St) (i j : Nat) (v : Int) : (setF S i v).b j 49 = if j = i then v else S.b j 49 := by
  unfold setF
  by_cases h : j = i
  · subst h
    rw [if_pos rfl]
    exact upd2_same _ _ _ _
  · rw [if_neg h]
    exact upd2_other _ _ _ _ _ _ (by omega)

end Go.Proofs.Ybulkcqic
