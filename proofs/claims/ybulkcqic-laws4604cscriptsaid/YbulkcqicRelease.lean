/-
  release, behind the lock.
-/
import Derived.Test.YbulkcqicRel
namespace Go.Proofs.Ybulkcqic
open Go.RowKit Go.MuLone

theorem unlinkN_w (S : St) (n k j : Nat) (h : j ≠ 179) : (unlinkN S n k).w j = S.w j := by
  induction k with
  | zero => rfl
  | succ k ih => exact (unlinkS_w _ _ _ _ h).trans ih
theorem rel1_w (S : St) (c p sz j : Nat) (h : j ≠ 3 + c) : (rel1 S c p sz).w j = S.w j := by
  unfold rel1
  split
  · exact linkS_w _ _ _ _ h
  · rfl
theorem rel2_w (S : St) (p ch sz : Nat) : (rel2 S p ch sz).w = S.w := rfl
theorem rel3_w (S : St) (c p j : Nat) (h : j ≠ 3 + c ∧ j ≠ 91 + c ∧ j ≠ 179 ∧ j ≠ 180) : (rel3 S c p).w j = S.w j := by
  unfold rel3
  simp only []
  show (if j = 180 then _ else (linkS _ 179 p).w j) = _
  rw [if_neg h.2.2.2, linkS_w _ _ _ _ h.2.2.1]
  show (if j = 91 + c then _ else (unlinkS S (3 + c) p).w j) = _
  rw [if_neg h.2.1, unlinkS_w _ _ _ _ h.1]
theorem giveS_w (S : St) (n j : Nat) (h : j < 179) : (giveS S n).w j = S.w j := by
  unfold giveS
  simp only []
  show (if j = 181 then _ else if j = 180 then _ else (unlinkN S n 8).w j) = _
  rw [if_neg (by omega), if_neg (by omega), unlinkN_w _ _ _ _ (by omega)]
theorem rel4_w (S : St) (c p j : Nat) (h : j ≠ 3 + c ∧ j ≠ 91 + c ∧ j < 179) : (rel4 S c p).w j = S.w j := by
  unfold rel4
  simp only []
  split
  · rw [giveS_w _ _ _ h.2.2, rel3_w _ _ _ _ (by omega)]
  · rw [rel3_w _ _ _ _ (by omega)]
theorem relS_w (S : St) (c p ch sz j : Nat) (h : j ≠ 3 + c ∧ j ≠ 91 + c ∧ j < 179) : (relS S c p ch sz).w j = S.w j := by
  unfold relS
  simp only []
  split
  · rw [rel4_w _ _ _ _ h, rel2_w, rel1_w _ _ _ _ _ h.1]
  · rw [rel2_w, rel1_w _ _ _ _ _ h.1]

theorem release_any {U : Nat → Prop} {A : Ad} {S0 : St} {w : World} (h : R U A S0 w) (c p ch sz pl : Nat) (hc : c < 64) (hz0 : 8 ≤ sz) (hz1 : sz ≤ 512) (hpl : pl = p * 16384 + ch * sz) (hm : S0.w 1 = 0) (S : St) (hS : S = setH S0 1 1) (ho : RelOk S c p ch sz)
    (h4 : getP (rel2 (rel1 S c p sz) p ch sz) p 1 = 0 → Rel4Ok (rel2 (rel1 S c p sz) p ch sz) c p) :
    Calls Yba.prog 7 #[.pointer (some ⟨A.sb, 0, none⟩), .int .u64 (pl : Int), .int .i64 (sz : Int)] w fun e w' =>
      e = .returned (.tuple #[]) ∧ ∃ A', A'.sb = A.sb ∧ R U A' (setH (relS S c p ch sz) 1 0) w' ∧ Keep U w w' := by
  obtain ⟨mu, muf⟩ := h.slab 1 (by omega)
  have mu' : w.cell? ⟨A.sb, 1, none⟩ = some (.int .i32 0) := by rw [mu, slabV, if_neg (by omega), hm]; rfl
  have hR1 : R U A S (w.setCell ⟨A.sb, 1, none⟩ (.int .i32 1)) := by rw [hS]; exact h.setW (i := 1) (by omega) (by omega) 1
  have hK1 : Keep U w (w.setCell ⟨A.sb, 1, none⟩ (.int .i32 1)) := h.kHd (Keep.refl _ _) _ _
  have hcall := relLocked_any hR1 c p ch sz pl hc hz0 hz1 hpl ho h4
  have HW : Hid ((relS S c p ch sz).w 1 = 1) := by
    show (relS S c p ch sz).w 1 = 1
    rw [relS_w _ _ _ _ _ _ (by omega), hS]
    rfl
  clear h4 hS ho hpl hm
  go_enter_defers Yba.func7, Yba.ntmps7
  go_wp2_with fail
  refine (lock_free Yba.muLib ⟨A.sb, 1, none⟩ _ mu' muf).mono ?_
  rintro e w1 ⟨rfl, rfl⟩
  go_wp2_with fail
  refine hcall.mono ?_
  rintro e w2 ⟨rfl, A', hA', hR2, hK2⟩
  have hK3 := hK1.trans hK2
  clear hcall mu mu' muf hR1 hK1 hK2
  obtain ⟨mu, muf⟩ := hR2.slab 1 (by omega)
  rw [hA'] at mu muf
  have mu' : w2.cell? ⟨A.sb, 1, none⟩ = some (.int .i32 1) := by
    rw [slabV, if_neg (by omega), HW.out] at mu
    exact mu
  go_wp2
  refine leaves_cons (f := 12) (args := #[.pointer (some ⟨A.sb, 1, none⟩)]) (by simp) (by simp [go_sem]) ?_
  refine (unlock_deferred Yba.muLib ⟨A.sb, 1, none⟩ .returning _ mu' muf).mono ?_
  rintro e u' w'' ⟨rfl, rfl, rfl⟩
  have r3 := hR2.setW (i := 1) (by omega) (by omega) 0
  have k3 := hR2.kHd hK3 1 (.int (wk 1) 0)
  rw [hA'] at r3 k3
  exact ⟨_, results_none rfl _ _ _, rfl, A', hA', r3, k3⟩

end Go.Proofs.Ybulkcqic
