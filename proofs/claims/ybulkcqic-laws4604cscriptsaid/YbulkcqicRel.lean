/-
  releaseLocked and release.
-/
import Derived.Test.YbulkcqicAlloc
namespace Go.Proofs.Ybulkcqic
open Go.RowKit Go.MuLone

/-- The page back in its size's list where it was full. -/
def rel1 (S : St) (c p sz : Nat) : St := if getP S p 1 = ((16384 / sz : Nat) : Int) then linkS S (3 + c) p else S
/-- Two bytes of a chunk. -/
def put2 (S : St) (i o : Nat) (v : Nat) : St := { S with d := upd2 (upd2 S.d i o ((v % 256 : Nat) : Int)) i (o + 1) ((v / 256 : Nat) : Int) }
/-- The chunk given back. -/
def rel2 (S : St) (p ch sz : Nat) : St :=
  let S1 := put2 S (p / 8) (atC p ch sz) (getP S p 3).toNat
  setP (setP S1 p 3 ((ch + 1 : Nat) : Int)) p 1 (getP S p 1 - 1)
/-- The page free. -/
def rel3 (S : St) (c p : Nat) : St :=
  let S3 := unlinkS S (3 + c) p
  let S4 := setH S3 (91 + c) (wrap32 (S3.w (91 + c) - 1))
  let S6 := linkS (setP S4 p 0 255) 179 p
  let S7 := setH S6 180 (wrap64 (S6.w 180 + 1))
  setF S7 (p / 8) (wrap64 (S7.b (p / 8) 49 + 1))
def rel4 (S : St) (c p : Nat) : St :=
  let S8 := rel3 S c p
  if S8.b (p / 8) 49 = 8 ∧ 16 ≤ S8.w 180 then giveS S8 (p / 8) else S8
def relS (S : St) (c p ch sz : Nat) : St :=
  let S2 := rel2 (rel1 S c p sz) p ch sz
  if getP S2 p 1 = 0 then rel4 S2 c p else S2

theorem Live.rel1 {S : St} {q : Nat} (h : Live S q) (c p sz : Nat) : Live (rel1 S c p sz) q := by
  unfold Ybulkcqic.rel1
  split
  · unfold Live
    rw [(linkS_nb _ _ _).1, (linkS_nb _ _ _).2]
    exact h
  · exact h
theorem getP_setP_other (S : St) (p q f g : Nat) (v : Int) (hf : f < 6) (hg : g < 6) (h : ¬ (p = q ∧ f = g)) : getP (setP S q g v) p f = getP S p f := by
  unfold getP setP
  refine upd2_other _ _ _ _ _ _ (fun e => h ?_)
  have h1 := Nat.div_add_mod p 8
  have h2 := Nat.div_add_mod q 8
  omega
theorem getP_setP_same (S : St) (p f : Nat) (v : Int) : getP (setP S p f v) p f = v := upd2_same _ _ _ _
theorem getP_setH (S : St) (p f i : Nat) (v : Int) : getP (setH S i v) p f = getP S p f := rfl
/-- link turns nobody's size, counts, or returned chunk. -/
theorem linkS_get (S : St) (i p q f : Nat) (hf : f < 4) : getP (linkS S i p) q f = getP S q f := by
  unfold linkS
  simp only []
  rw [getP_setH]
  split
  · rw [getP_setP_other _ _ _ _ _ _ (by omega) (by omega) (by omega), getP_setP_other _ _ _ _ _ _ (by omega) (by omega) (by omega)]
  · rw [getP_setP_other _ _ _ _ _ _ (by omega) (by omega) (by omega), getP_setP_other _ _ _ _ _ _ (by omega) (by omega) (by omega), getP_setP_other _ _ _ _ _ _ (by omega) (by omega) (by omega)]
theorem rel1_get (S : St) (c p sz f : Nat) (hf : f < 4) : getP (rel1 S c p sz) p f = getP S p f := by
  unfold rel1
  split
  · exact linkS_get _ _ _ _ _ hf
  · rfl

/-- unlink turns nobody's size, counts, or returned chunk. -/
theorem unlinkS_get (S : St) (i p q f : Nat) (hf : f < 4) : getP (unlinkS S i p) q f = getP S q f := by
  have e1 : getP (unlink1 S i p) q f = getP S q f := by
    unfold unlink1
    split
    · rfl
    · exact getP_setP_other _ _ _ _ _ _ (by omega) (by omega) (by omega)
  have e2 : getP (unlink2 (unlink1 S i p) p) q f = getP (unlink1 S i p) q f := by
    unfold unlink2
    split
    · rfl
    · exact getP_setP_other _ _ _ _ _ _ (by omega) (by omega) (by omega)
  unfold unlinkS
  rw [getP_setP_other _ _ _ _ _ _ (by omega) (by omega) (by omega), getP_setP_other _ _ _ _ _ _ (by omega) (by omega) (by omega), e2, e1]

/-- What freeing page p asks. -/
structure Rel4Ok (S : St) (c p : Nat) : Prop where
  pr : Lk S (getP S p 4)
  nx : Lk S (getP (unlink1 S (3 + c) p) p 5)
  fr : Lk S (S.w 179)
  nb : S.nb ≤ 1000
  give : (rel3 S c p).b (p / 8) 49 = 8 → 16 ≤ (rel3 S c p).w 180 → ∀ k, k < 8 → Lk (unlinkN (rel3 S c p) (p / 8) k) (getP (unlinkN (rel3 S c p) (p / 8) k) (p / 8 * 8 + k) 4) ∧ Lk (unlinkN (rel3 S c p) (p / 8) k) (getP (unlink1 (unlinkN (rel3 S c p) (p / 8) k) 179 (p / 8 * 8 + k)) (p / 8 * 8 + k) 5)

/-- What releasing chunk ch of page p asks. -/
structure RelOk (S : St) (c p ch sz : Nat) : Prop where
  live : Live S p
  lt : p < 1000000
  cls : getP S p 0 = c
  us : ∃ x : Nat, getP S p 1 = x ∧ 0 < x ∧ x < 60000
  rt : ∃ x : Nat, getP S p 3 = x ∧ x < 60000
  fits : ch * sz + sz ≤ 16384
  full : getP S p 1 = ((16384 / sz : Nat) : Int) → Lk S (S.w (3 + c))

set_option maxRecDepth 100000 in
set_option maxHeartbeats 2000000 in
theorem relLocked_any {U : Nat → Prop} {A : Ad} {S : St} {w : World} (h : R U A S w) (c p ch sz pl : Nat) (hc : c < 64) (hz0 : 8 ≤ sz) (hz1 : sz ≤ 512) (hpl : pl = p * 16384 + ch * sz) (ho : RelOk S c p ch sz)
    (h4 : getP (rel2 (rel1 S c p sz) p ch sz) p 1 = 0 → Rel4Ok (rel2 (rel1 S c p sz) p ch sz) c p) :
    Calls Yba.prog 21 #[.pointer (some ⟨A.sb, 0, none⟩), .int .u64 (pl : Int), .int .i64 (sz : Int)] w fun e w' =>
      e = .returned (.tuple #[]) ∧ ∃ A', A'.sb = A.sb ∧ R U A' (relS S c p ch sz) w' ∧ Keep U w w' := by
  have H4 : Hid (getP (rel2 (rel1 S c p sz) p ch sz) p 1 = 0 → Rel4Ok (rel2 (rel1 S c p sz) p ch sz) c p) := h4
  clear h4
  have HP : Hid (pl = p * 16384 + ch * sz) := hpl
  have HO : Hid (RelOk S c p ch sz) := ho
  have hlp := ho.live
  have hplt := ho.lt
  have hfit := ho.fits
  have hpb : pl < 20000000000 := by omega
  clear ho hpl
  go_enter Yba.func21, Yba.ntmps21
  go_upto_region 0 with fail
  go_cut [6, 7] from 10 to 17 (fun v u wx => v = .int .i32 (p : Int) ∧ u = .int .i64 (ch : Int) ∧ Twin wx w)
  case first =>
    go_wp2_with fail
    go_quiet (fail)
    go_wp2
    go_meet
    case rel =>
      have h1 := HP.out
      have e1 : (pl : Int) / 16384 = (p : Int) := by omega
      have e2 : (pl : Int) % 16384 = ((ch * sz : Nat) : Int) := by omega
      have e3 : ((ch * sz : Nat) : Int) / (sz : Int) = (ch : Int) := by
        rw [← Int.natCast_ediv, Nat.mul_div_cancel _ (by omega)]
      rw [e1, e2, e3]
      exact ⟨rfl, rfl, rfl, rfl, rfl, rfl⟩
  case rest =>
  obtain ⟨rfl, rfl, htw⟩ := hcut
  have hR1 := h.twin htw
  have hK1 : Keep U w wc := (Keep.refl U w).twin htw
  obtain ⟨w1, e1⟩ : ∃ x, x = wc := ⟨_, rfl⟩
  subst e1
  clear h htw hpb
  obtain ⟨us, hus, hus0, husb⟩ := HO.out.us
  obtain ⟨rt, hrt, hrtb⟩ := HO.out.rt
  have HU : Hid (getP S p 1 = us) := hus
  have HRT : Hid (getP S p 3 = rt) := hrt
  obtain ⟨a0, b0⟩ := hR1.pg0 hlp
  obtain ⟨a1, b1⟩ := hR1.pg1 hlp
  rw [HO.out.cls] at a0
  rw [hus] at a1
  clear hus hrt
  go_wp2_with fail
  refine (page_any hR1 p hlp hplt).mono ?_
  rintro e w2 ⟨rfl, rfl⟩
  go_upto_region 2 with fail
  go_cut [28] from 21 to 27 (fun v wx => (∃ b : Bool, v = .bool b ∧ (b = true ↔ us = 16384 / sz)) ∧ Twin wx w2)
  case first =>
    go_wp2_with fail
    go_quiet (fail)
    go_wp2
    go_meet
    case rel =>
      refine ⟨⟨_, rfl, ?_⟩, rfl, rfl, rfl, rfl⟩
      have e : (16384 : Int) / (sz : Int) = ((16384 / sz : Nat) : Int) := by simp
      rw [beq_iff_eq, e]
      omega
  case rest =>
  obtain ⟨⟨b, rfl, hb⟩, htw⟩ := hcut
  have hR2 := hR1.twin htw
  have hK2 := hK1.twin htw
  have HB : Hid (b = true ↔ us = 16384 / sz) := hb
  obtain ⟨w3, e3⟩ : ∃ x, x = wc := ⟨_, rfl⟩
  subst e3
  clear a0 b0 a1 b1 hR1 hK1 htw hb
  obtain ⟨a0, b0⟩ := hR2.pg0 hlp
  rw [HO.out.cls] at a0
  have j0 : (0 : Int) ≤ (c : Int) := by omega
  have j1 : (c : Int) < 88 := by omega
  go_upto_if 28 with fail
  go_cut [29] from 28 to 39 (fun _ wx => R U A (rel1 S c p sz) wx ∧ Keep U w wx)
  case first =>
    cases b with
    | true =>
      have hfull : getP S p 1 = ((16384 / sz : Nat) : Int) := by have := HB.out.1 rfl; rw [HU.out]; omega
      have hlk := HO.out.full hfull
      have HE : Hid (rel1 S c p sz = linkS S (3 + c) p) := by
        show rel1 S c p sz = _
        unfold rel1
        rw [if_pos hfull]
      have HRw : Hid (R U A S w3) := hR2
      have HK2 : Hid (Keep U w w3) := hK2
      clear hfull hR2 hK2
      go_upto_region 3 with fail
      go_region_with (go_at_call 18; refine (link_any (U := U) (A := A) (S := S) ?_ (3 + c) p hlp hplt (by omega) (by omega) hlk).mono ?_; exact HRw.out.twin ⟨rfl, rfl, rfl, rfl⟩; rintro e w4 ⟨rfl, hR4, hK4⟩)
      all_goals go_wp2
      all_goals go_meet
      all_goals exact ⟨by rw [HE.out]; exact hR4, HK2.out.drew.trans hK4⟩
    | false =>
      have HE : Hid (rel1 S c p sz = S) := by
        show rel1 S c p sz = _
        unfold rel1
        rw [if_neg (by rw [HU.out]; intro e; exact absurd (HB.out.2 (by omega)) (by simp))]
      go_wp2
      go_meet
      case rel => exact ⟨by rw [HE.out]; exact hR2, hK2⟩
  case rest =>
  obtain ⟨hR4, hK4⟩ := hcut
  obtain ⟨w4, e4⟩ : ∃ x, x = wc := ⟨_, rfl⟩
  subst e4
  clear a0 b0 hR2 hK2
  obtain ⟨S1, HS1⟩ : ∃ X, Hid (X = rel1 S c p sz) := ⟨_, rfl⟩
  rw [← HS1.out] at hR4
  have hl1 : Live S1 p := by rw [HS1.out]; exact hlp.rel1 c p sz
  have HG : Hid (∀ f, f < 4 → getP S1 p f = getP S p f) := fun f hf => by rw [HS1.out]; exact rel1_get S c p sz f hf
  obtain ⟨a3, b3⟩ := hR4.pg3 hl1
  rw [HG.out 3 (by omega), HRT.out] at a3
  have hat : atC p ch sz + 1 < K := by unfold atC K; omega
  have c0 := hR4.dat (p / 8) hl1.1 hl1.2 (atC p ch sz) (by omega)
  have c1 := hR4.dat (p / 8) hl1.1 hl1.2 (atC p ch sz + 1) hat
  have HC : Hid (Has w4 ⟨A.db (p / 8), atC p ch sz, none⟩ (.int .u8 (S1.d (p / 8) (atC p ch sz))) ∧ Has w4 ⟨A.db (p / 8), atC p ch sz + 1, none⟩ (.int .u8 (S1.d (p / 8) (atC p ch sz + 1)))) := ⟨c0, c1⟩
  have HRw : Hid (R U A S1 w4 ∧ Keep U w w4) := ⟨hR4, hK4⟩
  have HF : Hid (ch * sz + sz ≤ 16384) := hfit
  have HR5 : Hid (∀ X : World, Twin X (((w4.alloc (.cells #[] 71)).setCell ⟨A.db (p / 8), atC p ch sz, none⟩ (.int .u8 ((rt % 256 : Nat) : Int))).setCell ⟨A.db (p / 8), atC p ch sz + 1, none⟩ (.int .u8 ((rt / 256 : Nat) : Int))) → R U A (put2 S1 (p / 8) (atC p ch sz) rt) X ∧ Keep U w X) := fun X hX => by
    have r1 := hR4.alloc (.cells #[] 71)
    have r2 := r1.setD hl1.1 hl1.2 (j := atC p ch sz) (by omega) ((rt % 256 : Nat) : Int)
    have r3 := r2.setD (i := p / 8) hl1.1 hl1.2 (j := atC p ch sz + 1) hat ((rt / 256 : Nat) : Int)
    have k1 : Keep U w (w4.alloc (.cells #[] 71)) := hK4.trans ((Keep.refl U _).alloc hR4.ub _)
    exact ⟨r3.twin hX, ((k1.set (a := ⟨A.db (p / 8), atC p ch sz, none⟩) (hR4.nD _ hl1.1 hl1.2) _).set (a := ⟨A.db (p / 8), atC p ch sz + 1, none⟩) (hR4.nD _ hl1.1 hl1.2) _).twin hX⟩
  clear hR4 hK4 c0 c1 hat
  go_upto_region 4 with fail
  go_cut [40] from 41 to 50 (fun _ wx => R U A (put2 S1 (p / 8) (atC p ch sz) rt) wx ∧ Keep U w wx)
  case first =>
    go_region_with (first
      | (go_at_call 20; refine (chunk_any (U := U) (A := A) (S := S1) ?_ p ch sz hl1 hplt (by omega) HF.out).mono ?_; exact HRw.out.1.twin ⟨rfl, rfl, rfl, rfl⟩; rintro e w5 ⟨rfl, rfl⟩)
      | (go_at_call 26; refine (put16_any (A.db (p / 8)) (atC p ch sz) sz _ rt _ (S1.d (p / 8) (atC p ch sz)) (S1.d (p / 8) (atC p ch sz + 1)) (by omega) (by omega) ?_ ?_).mono ?_; exact HC.out.1.of_block rfl; exact HC.out.2.of_block rfl; rintro e w5 ⟨rfl, rfl⟩))
    all_goals go_wp2
    all_goals go_meet
    all_goals exact HR5.out _ ⟨rfl, rfl, rfl, rfl⟩
  case rest =>
  obtain ⟨hR5, hK5⟩ := hcut
  obtain ⟨w5, e5⟩ : ∃ x, x = wc := ⟨_, rfl⟩
  subst e5
  clear a3 b3 HR5 HRw HC
  obtain ⟨S2, HS2⟩ : ∃ X, Hid (X = put2 S1 (p / 8) (atC p ch sz) rt) := ⟨_, rfl⟩
  rw [← HS2.out] at hR5
  have hl2 : Live S2 p := by rw [HS2.out]; exact hl1
  have hch : ch < 2048 := by
    have := Nat.mul_le_mul_left ch hz0
    omega
  obtain ⟨a3, b3⟩ := hR5.pg3 hl2
  go_upto_region 5 with fail
  go_cut [51] from 52 to 56 (fun _ wx => R U A (setP S2 p 3 ((ch + 1 : Nat) : Int)) wx ∧ Keep U w wx)
  case first =>
    go_wp2
    go_meet
    case rel =>
      have e : ((ch : Int) + 1) = ((ch + 1 : Nat) : Int) := by omega
      rw [e]
      exact ⟨hR5.setPg hl2 3 (by omega) _, hR5.kPg hK5 hl2 _ _⟩
  case rest =>
  obtain ⟨hR6, hK6⟩ := hcut
  obtain ⟨w6, e6⟩ : ∃ x, x = wc := ⟨_, rfl⟩
  subst e6
  clear a3 b3 hR5 hK5
  obtain ⟨S3, HS3⟩ : ∃ X, Hid (X = setP S2 p 3 ((ch + 1 : Nat) : Int)) := ⟨_, rfl⟩
  rw [← HS3.out] at hR6
  have hl3 : Live S3 p := by rw [HS3.out]; exact hl2
  obtain ⟨a1, b1⟩ := hR6.pg1 hl3
  have HU3 : Hid (getP S3 p 1 = us) := by
    show getP S3 p 1 = us
    rw [HS3.out, getP_setP_other _ _ _ _ _ _ (by omega) (by omega) (by omega), HS2.out]
    exact (HG.out 1 (by omega)).trans HU.out
  rw [HU3.out] at a1
  obtain ⟨v, rfl⟩ : ∃ v, us = v + 1 := ⟨us - 1, by omega⟩
  go_upto_region 6 with fail
  go_cut [57] from 58 to 63 (fun _ wx => R U A (setP S3 p 1 (v : Int)) wx ∧ Keep U w wx)
  case first =>
    go_wp2
    go_meet
    case rel =>
      exact ⟨hR6.setPg hl3 1 (by omega) _, hR6.kPg hK6 hl3 _ _⟩
  case rest =>
  obtain ⟨hR7, hK7⟩ := hcut
  obtain ⟨w7, e7⟩ : ∃ x, x = wc := ⟨_, rfl⟩
  subst e7
  clear a1 b1 hR6 hK6
  obtain ⟨S4, HS4⟩ : ∃ X, Hid (X = setP S3 p 1 (v : Int)) := ⟨_, rfl⟩
  rw [← HS4.out] at hR7
  have hl4 : Live S4 p := by rw [HS4.out]; exact hl3
  have HE4 : Hid (S4 = rel2 (rel1 S c p sz) p ch sz) := by
    show S4 = _
    have e : ((v + 1 : Nat) : Int) - 1 = (v : Int) := by omega
    rw [HS4.out, HS3.out, HS2.out, HS1.out]
    unfold rel2
    simp only []
    rw [rel1_get S c p sz 3 (by omega), HRT.out, rel1_get S c p sz 1 (by omega), HU.out, e]
    rfl
  have HU4 : Hid (getP S4 p 1 = v) := by
    show getP S4 p 1 = v
    rw [HS4.out, getP_setP_same]
  have HC4 : Hid (getP S4 p 0 = c) := by
    show getP S4 p 0 = c
    rw [HS4.out, getP_setP_other _ _ _ _ _ _ (by omega) (by omega) (by omega), HS3.out, getP_setP_other _ _ _ _ _ _ (by omega) (by omega) (by omega), HS2.out]
    exact (HG.out 0 (by omega)).trans HO.out.cls
  have HRS : Hid (relS S c p ch sz = if (v : Int) = 0 then rel4 S4 c p else S4) := by
    show relS S c p ch sz = _
    rw [← HU4.out, HE4.out]
    rfl
  have H4' : Hid ((v : Int) = 0 → Rel4Ok S4 c p) := by
    show (v : Int) = 0 → Rel4Ok S4 c p
    rw [← HU4.out, HE4.out]
    exact H4.out
  obtain ⟨a1, b1⟩ := hR7.pg1 hl4
  rw [HU4.out] at a1
  clear HS4 HS3 HS2 HS1 hl1 hl2 hl3 HG HU3 H4
  go_upto_region 7 with fail
  go_cut [68] from 64 to 67 (fun x wx => (∃ b : Bool, x = .bool b ∧ (b = true ↔ 0 < v)) ∧ w7 = wx)
  case first =>
    go_wp2
    go_meet
    case rel => exact ⟨⟨_, rfl, by simp⟩, rfl⟩
  case rest =>
  obtain ⟨⟨b, rfl, hb⟩, rfl⟩ := hcut
  have HB2 : Hid (b = true ↔ 0 < v) := hb
  clear hb a1 b1
  cases b with
  | true =>
    have hne : ¬ ((v : Int) = 0) := by have := HB2.out.1 rfl; omega
    have HE : Hid (relS S c p ch sz = S4) := HRS.out.trans (if_neg hne)
    clear hne
    go_wp2
    refine bodyPost_ret (results_none rfl _ _ _) rfl ?_
    exact ⟨rfl, A, rfl, by rw [HE.out]; exact hR7, hK7⟩
  | false =>
  have hv0 : (v : Int) = 0 := by
    have : ¬ (0 < v) := fun h0 => absurd (HB2.out.2 h0) (by simp)
    omega
  have HO4 : Hid (Rel4Ok S4 c p) := H4'.out hv0
  have HE : Hid (relS S c p ch sz = rel4 S4 c p) := HRS.out.trans (if_pos hv0)
  clear hv0 HRS H4' HB2 HB HU HRT HF HU4 HE4
  have hpr := HO4.out.pr
  have hnx := HO4.out.nx
  obtain ⟨a0, b0⟩ := hR7.pg0 hl4
  rw [HC4.out] at a0
  have HRw : Hid (R U A S4 w7) := hR7
  have HK7 : Hid (Keep U w w7) := hK7
  clear hR7 hK7
  go_upto_region 8 with fail
  go_cut [69] from 70 to 79 (fun _ wx => R U A (unlinkS S4 (3 + c) p) wx ∧ Keep U w wx)
  case first =>
    go_region_with (go_at_call 15; refine (unlink_any (U := U) (A := A) (S := S4) ?_ (3 + c) p hl4 hplt (by omega) (by omega) hpr hnx).mono ?_; exact HRw.out.twin ⟨rfl, rfl, rfl, rfl⟩; rintro e w8 ⟨rfl, hR8, hK8⟩)
    all_goals go_wp2
    all_goals go_meet
    all_goals exact ⟨hR8, HK7.out.drew.trans hK8⟩
  case rest =>
  obtain ⟨hR8, hK8⟩ := hcut
  obtain ⟨w8, e8⟩ : ∃ x, x = wc := ⟨_, rfl⟩
  subst e8
  clear a0 b0 HRw HK7 hpr hnx
  obtain ⟨S5, HS5⟩ : ∃ X, Hid (X = unlinkS S4 (3 + c) p) := ⟨_, rfl⟩
  rw [← HS5.out] at hR8
  have hl5 : Live S5 p := by rw [HS5.out]; exact hl4.unlinkS _ _
  have HC5 : Hid (getP S5 p 0 = c) := by
    show getP S5 p 0 = c
    rw [HS5.out, unlinkS_get _ _ _ _ _ (by omega)]
    exact HC4.out
  obtain ⟨a0, b0⟩ := hR8.pg0 hl5
  rw [HC5.out] at a0
  obtain ⟨l1, m1⟩ := hR8.hd (i := 91 + c) (by omega) (by omega)
  have HR9 : Hid (∀ X : World, Twin X (w8.setCell ⟨A.sb, 91 + c, none⟩ (.int .i32 (wrap32 (S5.w (91 + c) - 1)))) → R U A (setH S5 (91 + c) (wrap32 (S5.w (91 + c) - 1))) X ∧ Keep U w X) := fun X hX =>
    ⟨(hR8.setHd (by omega) (by omega) _).twin hX, (hR8.kHd hK8 _ _).twin hX⟩
  go_upto_region 9 with fail
  go_cut [80] from 81 to 92 (fun _ wx => R U A (setH S5 (91 + c) (wrap32 (S5.w (91 + c) - 1))) wx ∧ Keep U w wx)
  case first =>
    clear hR8 hK8
    go_wp2_with fail
    go_big_region
    go_wp2
    go_meet
    case rel => exact HR9.out _ ⟨rfl, rfl, rfl, rfl⟩
  case rest =>
  obtain ⟨hR9, hK9⟩ := hcut
  obtain ⟨w9, e9⟩ : ∃ x, x = wc := ⟨_, rfl⟩
  subst e9
  clear a0 b0 l1 m1 hR8 hK8 HR9
  obtain ⟨S6, HS6⟩ : ∃ X, Hid (X = setH S5 (91 + c) (wrap32 (S5.w (91 + c) - 1))) := ⟨_, rfl⟩
  rw [← HS6.out] at hR9
  have hl6 : Live S6 p := by rw [HS6.out]; exact hl5
  obtain ⟨a0, b0⟩ := hR9.pg0 hl6
  go_upto_region 10 with fail
  go_cut [93] from 94 to 95 (fun _ wx => R U A (setP S6 p 0 255) wx ∧ Keep U w wx)
  case first =>
    go_wp2
    go_meet
    case rel => exact ⟨hR9.setPg hl6 0 (by omega) _, hR9.kPg hK9 hl6 _ _⟩
  case rest =>
  obtain ⟨hR10, hK10⟩ := hcut
  obtain ⟨w10, e10⟩ : ∃ x, x = wc := ⟨_, rfl⟩
  subst e10
  clear a0 b0 hR9 hK9
  obtain ⟨S7, HS7⟩ : ∃ X, Hid (X = setP S6 p 0 255) := ⟨_, rfl⟩
  rw [← HS7.out] at hR10
  have hl7 : Live S7 p := by rw [HS7.out]; exact hl6
  have hfr : Lk S7 (S7.w 179) := by
    have e1 : S7.w 179 = S4.w 179 := by
      rw [HS7.out, HS6.out]
      show (if 179 = 91 + c then _ else S5.w 179) = _
      rw [if_neg (by omega), HS5.out]
      exact unlinkS_w _ _ _ _ (by omega)
    have e2 : ∀ q, Live S4 q → Live S7 q := fun q hq => by
      rw [HS7.out, HS6.out, HS5.out]
      exact hq.unlinkS _ _
    rw [e1]
    rcases HO4.out.fr with h0 | ⟨q, h1, h2, h3⟩
    · exact .inl h0
    · exact .inr ⟨q, h1, e2 q h2, h3⟩
  obtain ⟨l1, m1⟩ := hR10.hd (i := 179) (by omega) (by omega)
  go_wp2_with fail
  refine (link_any hR10 179 p hl7 hplt (by omega) (by omega) hfr).mono ?_
  rintro e w11 ⟨rfl, hR11, hK11⟩
  have hK11' := hK10.trans hK11
  clear hK11 hR10 hK10 l1 m1 hfr
  obtain ⟨S8, HS8⟩ : ∃ X, Hid (X = linkS S7 179 p) := ⟨_, rfl⟩
  rw [← HS8.out] at hR11
  have hl8 : Live S8 p := by
    rw [HS8.out]
    unfold Live
    rw [(linkS_nb _ _ _).1, (linkS_nb _ _ _).2]
    exact hl7
  obtain ⟨l2, m2⟩ := hR11.lw (i := 180) (by omega) (by omega)
  go_upto_region 12 with fail
  go_cut [102] from 103 to 108 (fun _ wx => R U A (setH S8 180 (wrap64 (S8.w 180 + 1))) wx ∧ Keep U w wx)
  case first =>
    go_wp2
    go_meet
    case rel => exact ⟨hR11.setLw (by omega) (by omega) _, hR11.kHd hK11' _ _⟩
  case rest =>
  obtain ⟨hR12, hK12⟩ := hcut
  obtain ⟨w12, e12⟩ : ∃ x, x = wc := ⟨_, rfl⟩
  subst e12
  clear l2 m2 hR11 hK11'
  obtain ⟨S9, HS9⟩ : ∃ X, Hid (X = setH S8 180 (wrap64 (S8.w 180 + 1))) := ⟨_, rfl⟩
  rw [← HS9.out] at hR12
  have hl9 : Live S9 p := by rw [HS9.out]; exact hl8
  obtain ⟨l1, m1⟩ := hR12.fr hl9
  go_wp2_with fail
  refine (block_any hR12 p hl9 hplt).mono ?_
  rintro e w13 ⟨rfl, rfl⟩
  go_upto_region 14 with fail
  go_cut [112] from 113 to 118 (fun _ wx => R U A (setF S9 (p / 8) (wrap64 (S9.b (p / 8) 49 + 1))) wx ∧ Keep U w wx)
  case first =>
    go_wp2
    go_meet
    case rel => exact ⟨hR12.setFr hl9 _, hR12.kPg hK12 hl9 _ _⟩
  case rest =>
  obtain ⟨hR14, hK14⟩ := hcut
  obtain ⟨w14, e14⟩ : ∃ x, x = wc := ⟨_, rfl⟩
  subst e14
  clear l1 m1 hR12 hK12
  obtain ⟨T, HT⟩ : ∃ X, Hid (X = setF S9 (p / 8) (wrap64 (S9.b (p / 8) 49 + 1))) := ⟨_, rfl⟩
  rw [← HT.out] at hR14
  have hlT : Live T p := by rw [HT.out]; exact hl9
  have HTE : Hid (T = rel3 S4 c p) := by
    show T = _
    rw [HT.out, HS9.out, HS8.out, HS7.out, HS6.out, HS5.out]
    rfl
  have HGV : Hid (T.b (p / 8) 49 = 8 → 16 ≤ T.w 180 → ∀ k, k < 8 → Lk (unlinkN T (p / 8) k) (getP (unlinkN T (p / 8) k) (p / 8 * 8 + k) 4) ∧ Lk (unlinkN T (p / 8) k) (getP (unlink1 (unlinkN T (p / 8) k) 179 (p / 8 * 8 + k)) (p / 8 * 8 + k) 5)) := by
    show T.b (p / 8) 49 = 8 → 16 ≤ T.w 180 → _
    rw [HTE.out]
    exact HO4.out.give
  have HTB : Hid (T.nb ≤ 1000) := by
    show T.nb ≤ 1000
    rw [HT.out, HS9.out]
    show S8.nb ≤ 1000
    rw [HS8.out, (linkS_nb _ _ _).1, HS7.out, HS6.out]
    show S5.nb ≤ 1000
    rw [HS5.out, (unlinkS_nb _ _ _).1]
    exact HO4.out.nb
  have HE5 : Hid (relS S c p ch sz = if T.b (p / 8) 49 = 8 ∧ 16 ≤ T.w 180 then giveS T (p / 8) else T) := by
    show relS S c p ch sz = _
    rw [HE.out, HTE.out]
    rfl
  clear HS9 HS8 HS7 HS6 HS5 HT HE HTE HO4 hl4 hl5 hl6 hl7 hl8 hl9 HC4 HC5
  obtain ⟨l1, m1⟩ := hR14.fr hlT
  obtain ⟨l2, m2⟩ := hR14.lw (i := 180) (by omega) (by omega)
  go_upto_region 15 with fail
  go_cut [130] from 119 to 129 (fun x wx => (∃ b : Bool, x = .bool b ∧ (b = true ↔ T.b (p / 8) 49 = 8 ∧ 16 ≤ T.w 180)) ∧ w14 = wx)
  case first =>
    by_cases h8 : T.b (p / 8) 49 = 8
    · rw [h8] at l1
      have H8 : Hid (T.b (p / 8) 49 = 8) := h8
      clear h8
      go_wp2
      go_meet
      case rel => exact ⟨⟨_, rfl, by simp [H8.out]⟩, rfl⟩
    · have h8' : (T.b (p / 8) 49 == 8) = false := by simpa using h8
      have H8 : Hid (¬ T.b (p / 8) 49 = 8) := h8
      clear h8
      go_wp2
      go_meet
      case rel => exact ⟨⟨_, rfl, by simp [H8.out]⟩, rfl⟩
  case rest =>
  obtain ⟨⟨b, rfl, hb⟩, rfl⟩ := hcut
  have HB : Hid (b = true ↔ T.b (p / 8) 49 = 8 ∧ 16 ≤ T.w 180) := hb
  clear hb l1 m1 l2 m2
  cases b with
  | true =>
    have hgo := HB.out.1 rfl
    have HE6 : Hid (relS S c p ch sz = giveS T (p / 8)) := HE5.out.trans (if_pos hgo)
    have hgv := HGV.out hgo.1 hgo.2
    have hcall := give_any hR14 (p / 8) hlT.1 hlT.2 HTB.out hgv
    have e8 : ((p / 8 : Nat) : Int) = (p : Int) / 8 := by simp
    rw [e8] at hcall
    clear hgo hgv HGV HE5 HTB HB e8
    go_wp2_with fail
    refine hcall.mono ?_
    rintro e w15 ⟨rfl, A', hA', hR15, hK15⟩
    go_wp2
    go_end0
    exact ⟨rfl, A', hA', by rw [HE6.out]; exact hR15, hK14.trans hK15⟩
  | false =>
    have HE6 : Hid (relS S c p ch sz = T) := HE5.out.trans (if_neg (fun h0 => absurd (HB.out.2 h0) (by simp)))
    go_wp2
    go_end0
    exact ⟨rfl, A, rfl, by rw [HE6.out]; exact hR14, hK14⟩

end Go.Proofs.Ybulkcqic
