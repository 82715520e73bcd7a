/-
  link and unlink.
-/
import Derived.Test.YbulkcqicBytes
namespace Go.Proofs.Ybulkcqic
open Go.RowKit

def pk (f : Nat) : IntKind := if f = 0 then .u8 else if f ≤ 3 then .u16 else .i32
def getP (S : St) (p f : Nat) : Int := S.b (p / 8) (1 + p % 8 * 6 + f)
def setP (S : St) (p f : Nat) (v : Int) : St := { S with b := upd2 S.b (p / 8) (1 + p % 8 * 6 + f) v }
def setH (S : St) (h : Nat) (v : Int) : St := { S with w := upd S.w h v }
/-- A list's link: none, or a page that is held. -/
def Lk (S : St) (v : Int) : Prop := v = -1 ∨ ∃ q : Nat, v = q ∧ Live S q ∧ q < 1000000

theorem bk_pk (q f : Nat) (hq : q < 8) (hf : f < 6) : bk (1 + q * 6 + f) = pk f := by
  unfold bk pk
  have e : (1 + q * 6 + f - 1) % 6 = f := by omega
  rw [if_neg (by omega), e]

section
variable {U : Nat → Prop} {A : Ad} {S : St} {w : World}

theorem R.pg (h : R U A S w) {p : Nat} (hp : Live S p) (f : Nat) (hf : f < 6) : Has w ⟨A.bb (p / 8), 1 + p % 8 * 6 + f, none⟩ (.int (pk f) (getP S p f)) := by
  have := h.blk (p / 8) hp.1 hp.2 (1 + p % 8 * 6 + f) (by omega)
  rwa [blkV, if_neg (by omega), bk_pk _ _ (by omega) hf] at this
theorem R.setPg (h : R U A S w) {p : Nat} (hp : Live S p) (f : Nat) (hf : f < 6) (v : Int) : R U A (setP S p f v) (w.setCell ⟨A.bb (p / 8), 1 + p % 8 * 6 + f, none⟩ (.int (pk f) v)) := by
  have := h.setB hp.1 hp.2 (j := 1 + p % 8 * 6 + f) (by omega) (by omega) v
  rwa [bk_pk _ _ (by omega) hf] at this
theorem R.pg0 (h : R U A S w) {p : Nat} (hp : Live S p) : Has w ⟨A.bb (p / 8), 1 + p % 8 * 6, none⟩ (.int .u8 (getP S p 0)) := h.pg hp 0 (by omega)
theorem R.pg1 (h : R U A S w) {p : Nat} (hp : Live S p) : Has w ⟨A.bb (p / 8), 1 + p % 8 * 6 + 1, none⟩ (.int .u16 (getP S p 1)) := h.pg hp 1 (by omega)
theorem R.pg2 (h : R U A S w) {p : Nat} (hp : Live S p) : Has w ⟨A.bb (p / 8), 1 + p % 8 * 6 + 2, none⟩ (.int .u16 (getP S p 2)) := h.pg hp 2 (by omega)
theorem R.pg3 (h : R U A S w) {p : Nat} (hp : Live S p) : Has w ⟨A.bb (p / 8), 1 + p % 8 * 6 + 3, none⟩ (.int .u16 (getP S p 3)) := h.pg hp 3 (by omega)
theorem R.pg4 (h : R U A S w) {p : Nat} (hp : Live S p) : Has w ⟨A.bb (p / 8), 1 + p % 8 * 6 + 4, none⟩ (.int .i32 (getP S p 4)) := h.pg hp 4 (by omega)
theorem R.pg5 (h : R U A S w) {p : Nat} (hp : Live S p) : Has w ⟨A.bb (p / 8), 1 + p % 8 * 6 + 5, none⟩ (.int .i32 (getP S p 5)) := h.pg hp 5 (by omega)
theorem wk_i32 {i : Nat} (h3 : 3 ≤ i) (hi : i < 180) : wk i = .i32 := by
  unfold wk
  rw [if_neg (by omega), if_pos hi]
theorem R.hd (h : R U A S w) {i : Nat} (h3 : 3 ≤ i) (hi : i < 180) : Has w ⟨A.sb, i, none⟩ (.int .i32 (S.w i)) := by
  have := h.slab i (by omega)
  rwa [slabV, if_neg (by omega), wk_i32 h3 hi] at this
theorem R.setHd (h : R U A S w) {i : Nat} (h3 : 3 ≤ i) (hi : i < 180) (v : Int) : R U A (setH S i v) (w.setCell ⟨A.sb, i, none⟩ (.int .i32 v)) := by
  have := h.setW (i := i) (by omega) (by omega) v
  rwa [wk_i32 h3 hi] at this
theorem R.kPg (h : R U A S w) {w0 : World} (hk : Keep U w0 w) {p : Nat} (hp : Live S p) (o : Nat) (v : Value) : Keep U w0 (w.setCell ⟨A.bb (p / 8), o, none⟩ v) := hk.set (a := ⟨A.bb (p / 8), o, none⟩) (h.nB _ hp.1 hp.2) v
theorem R.kHd (h : R U A S w) {w0 : World} (hk : Keep U w0 w) (i : Nat) (v : Value) : Keep U w0 (w.setCell ⟨A.sb, i, none⟩ v) := hk.set (a := ⟨A.sb, i, none⟩) h.nS v
theorem R.twin (h : R U A S w) {w' : World} (ht : Twin w' w) : R U A S w' := h.frame (by rw [ht.1]; exact Nat.le_refl _) (fun k _ _ => by rw [ht.1])
theorem Keep.twin {w1 w' : World} (h : Keep U w w1) (ht : Twin w' w1) : Keep U w w' := ⟨ht.2.1.trans h.os, ht.2.2.2.trans h.tape, ht.2.2.1.trans h.output, by rw [ht.1]; exact h.size, fun k hk => by rw [ht.1]; exact h.blk k hk⟩
theorem R.bb_sb (h : R U A S w) {p : Nat} (hp : Live S p) : A.bb (p / 8) ≠ A.sb := fun e => by
  have := h.tS
  rw [← e, h.tB _ hp.1 hp.2] at this
  omega
theorem Live.setP {p : Nat} (h : Live S p) (q f : Nat) (v : Int) : Live (setP S q f v) p := h
theorem Live.setH {p : Nat} (h : Live S p) (i : Nat) (v : Int) : Live (setH S i v) p := h
end

/-- link: page p at the head of the list at cell i. -/
def linkS (S : St) (i p : Nat) : St :=
  let S2 := setP (setP S p 4 (-1)) p 5 (S.w i)
  let S3 := if S.w i = -1 then S2 else setP S2 (S.w i).toNat 4 p
  setH S3 i p

set_option maxHeartbeats 1000000 in
theorem link_any {U : Nat → Prop} {A : Ad} {S : St} {w : World} (h : R U A S w) (i p : Nat) (hp : Live S p) (hb : p < 1000000) (h3 : 3 ≤ i) (hi : i < 180) (hold : Lk S (S.w i)) :
    Calls Yba.prog 18 #[.pointer (some ⟨A.sb, 0, none⟩), .pointer (some ⟨A.sb, i, none⟩), .int .i32 (p : Int)] w fun e w' => e = .returned (.tuple #[]) ∧ R U A (linkS S i p) w' ∧ Keep U w w' := by
  obtain ⟨a1, b1⟩ := h.hd h3 hi
  obtain ⟨a2, b2⟩ := h.pg hp 4 (by omega)
  obtain ⟨a3, b3⟩ := h.pg hp 5 (by omega)
  go_enter Yba.func18, Yba.ntmps18
  go_wp2_with fail
  refine (page_any h p hp hb).mono ?_
  rintro e w' ⟨rfl, rfl⟩
  go_upto_region 1 with fail
  go_cut [10] from 11 to 18 (fun _ wx => R U A (setP (setP S p 4 (-1)) p 5 (S.w i)) wx ∧ Keep U w' wx)
  case first =>
    go_wp2
    go_meet
    case rel =>
      have r1 := h.setPg hp 4 (by omega) (-1)
      exact ⟨r1.setPg (hp.setP _ _ _) 5 (by omega) _, r1.kPg (h.kPg (Keep.refl U _) hp _ _) (hp.setP _ _ _) _ _⟩
  case rest =>
  obtain ⟨r2, k2⟩ := hcut
  clear h a1 b1 a2 b2 a3 b3
  obtain ⟨a1, b1⟩ := r2.hd h3 hi
  have a1' : wc.cell? ⟨A.sb, i, none⟩ = some (.int .i32 (S.w i)) := a1
  clear a1
  have hl2 : ∀ q, Live S q → Live (setP (setP S p 4 (-1)) p 5 (S.w i)) q := fun q hq => hq
  rcases hold with hm | ⟨q, hq, hlq, hqb⟩
  · rw [hm] at a1'
    go_wp2
    go_end0
    have r3 := r2.setHd h3 hi p
    refine ⟨rfl, ?_, r2.kHd k2 _ _⟩
    have e : linkS S i p = setH (setP (setP S p 4 (-1)) p 5 (S.w i)) i p := by simp [linkS, hm]
    rw [e]
    exact r3
  · have tn : ((q : Int) != -1) = true := by simp
    rw [hq] at a1'
    have Hq : Hid (S.w i = q) := hq
    obtain ⟨a4, b4⟩ := r2.pg (hl2 q hlq) 4 (by omega)
    clear hq
    have hne : A.bb (q / 8) ≠ A.sb := r2.bb_sb (hl2 q hlq)
    go_wp2_with fail
    refine (page_any r2 q (hl2 q hlq) hqb).mono ?_
    rintro e w4 ⟨rfl, rfl⟩
    go_wp2
    go_end0
    have r3 := r2.setPg (hl2 q hlq) 4 (by omega) p
    refine ⟨rfl, ?_, r3.kHd (r2.kPg k2 (hl2 q hlq) _ _) _ _⟩
    have e : linkS S i p = setH (setP (setP (setP S p 4 (-1)) p 5 (S.w i)) q 4 p) i p := by simp [linkS, Hq.out]
    rw [e]
    exact r3.setHd h3 hi p

/-- unlink: page p out of the list at cell i. -/
def unlink1 (S : St) (i p : Nat) : St := if getP S p 4 = -1 then setH S i (getP S p 5) else setP S (getP S p 4).toNat 5 (getP S p 5)
def unlink2 (S : St) (p : Nat) : St := if getP S p 5 = -1 then S else setP S (getP S p 5).toNat 4 (getP S p 4)
def unlinkS (S : St) (i p : Nat) : St := setP (setP (unlink2 (unlink1 S i p) p) p 4 (-1)) p 5 (-1)

theorem Live.unlink1 {S : St} {q : Nat} (h : Live S q) (i p : Nat) : Live (unlink1 S i p) q := by
  unfold Ybulkcqic.unlink1
  split
  · exact h
  · exact h
theorem Live.unlink2 {S : St} {q : Nat} (h : Live S q) (p : Nat) : Live (unlink2 S p) q := by
  unfold Ybulkcqic.unlink2
  split
  · exact h
  · exact h

set_option maxHeartbeats 2000000 in
theorem unlink_any {U : Nat → Prop} {A : Ad} {S : St} {w : World} (h : R U A S w) (i p : Nat) (hp : Live S p) (hb : p < 1000000) (h3 : 3 ≤ i) (hi : i < 180) (hpr : Lk S (getP S p 4)) (hnx : Lk S (getP (unlink1 S i p) p 5)) :
    Calls Yba.prog 15 #[.pointer (some ⟨A.sb, 0, none⟩), .pointer (some ⟨A.sb, i, none⟩), .int .i32 (p : Int)] w fun e w' => e = .returned (.tuple #[]) ∧ R U A (unlinkS S i p) w' ∧ Keep U w w' := by
  obtain ⟨a1, b1⟩ := h.hd h3 hi
  obtain ⟨a2, b2⟩ := h.pg4 hp
  obtain ⟨a3, b3⟩ := h.pg5 hp
  go_enter Yba.func15, Yba.ntmps15
  go_wp2_with fail
  refine (page_any h p hp hb).mono ?_
  rintro e w' ⟨rfl, rfl⟩
  go_upto_region 1 with fail
  go_cut [14] from 10 to 13 (fun v wx => v = .bool (getP S p 4 != -1) ∧ w' = wx)
  case first =>
    go_wp2
    go_meet
    case rel => exact ⟨rfl, rfl⟩
  case rest =>
  obtain ⟨rfl, rfl⟩ := hcut
  go_upto_if 14 with fail
  go_cut [15] from 14 to 32 (fun _ wx => R U A (unlink1 S i p) wx ∧ Keep U w' wx)
  case first =>
    rcases hpr with hm | ⟨q, hq, hlq, hqb⟩
    · have t0 : (getP S p 4 != -1) = false := by simp [hm]
      rw [t0]
      go_wp2
      go_meet
      case rel =>
        have e : unlink1 S i p = setH S i (getP S p 5) := by simp [unlink1, hm]
        rw [e]
        exact ⟨h.setHd h3 hi _, h.kHd (Keep.refl U _) _ _⟩
    · have t0 : (getP S p 4 != -1) = true := by simp [hq]
      rw [t0]
      have e : unlink1 S i p = setP S q 5 (getP S p 5) := by simp [unlink1, hq]
      have HE : Hid (unlink1 S i p = setP S q 5 (getP S p 5)) := e
      rw [hq] at a2
      obtain ⟨a4, b4⟩ := h.pg5 hlq
      have HR : Hid (∀ X : World, Twin X (w'.setCell ⟨A.bb (q / 8), 1 + q % 8 * 6 + 5, none⟩ (.int .i32 (getP S p 5))) → R U A (unlink1 S i p) X ∧ Keep U w' X) := fun X hX => by
        rw [HE.out]
        exact ⟨(h.setPg hlq 5 (by omega) _).twin hX, (h.kPg (Keep.refl U _) hlq _ _).twin hX⟩
      have HH : Hid (R U A S w') := h
      clear hq e h
      go_wp2_with fail
      go_region_with (go_at_call 17; refine (page_any (U := U) (A := A) (S := S) ?_ q hlq hqb).mono ?_; exact HH.out.twin ⟨rfl, rfl, rfl, rfl⟩; rintro e w9 ⟨rfl, rfl⟩)
      all_goals go_wp2
      all_goals go_meet
      all_goals exact HR.out _ ⟨rfl, rfl, rfl, rfl⟩
  case rest =>
  obtain ⟨r2, k2⟩ := hcut
  obtain ⟨w2, e2⟩ : ∃ x, x = wc := ⟨_, rfl⟩
  subst e2
  clear h a1 b1 a2 b2 a3 b3 hpr
  have hp1 := hp.unlink1 i p
  have hlv : ∀ q, Live S q → Live (unlink1 S i p) q := fun q hq => hq.unlink1 i p
  obtain ⟨a2, b2⟩ := r2.pg4 hp1
  obtain ⟨a3, b3⟩ := r2.pg5 hp1
  go_upto_region 4 with fail
  go_cut [37] from 33 to 36 (fun v wx => v = .bool (getP (unlink1 S i p) p 5 != -1) ∧ w2 = wx)
  case first =>
    go_wp2
    go_meet
    case rel => exact ⟨rfl, rfl⟩
  case rest =>
  obtain ⟨rfl, rfl⟩ := hcut
  go_upto_if 37 with fail
  go_cut [38] from 37 to 49 (fun _ wx => R U A (unlink2 (unlink1 S i p) p) wx ∧ Keep U w' wx)
  case first =>
    rcases hnx with hm | ⟨q, hq, hlq0, hqb⟩
    · have t0 : (getP (unlink1 S i p) p 5 != -1) = false := by simp [hm]
      rw [t0]
      go_wp2
      go_meet
      case rel =>
        have e : unlink2 (unlink1 S i p) p = unlink1 S i p := by simp [unlink2, hm]
        rw [e]
        exact ⟨r2, k2⟩
    · have hlq := hlv q hlq0
      have t0 : (getP (unlink1 S i p) p 5 != -1) = true := by simp [hq]
      rw [t0]
      have HE : Hid (unlink2 (unlink1 S i p) p = setP (unlink1 S i p) q 4 (getP (unlink1 S i p) p 4)) := by
        show unlink2 (unlink1 S i p) p = _
        simp [unlink2, hq]
      rw [hq] at a3
      obtain ⟨a4, b4⟩ := r2.pg4 hlq
      have HR : Hid (∀ X : World, Twin X (w2.setCell ⟨A.bb (q / 8), 1 + q % 8 * 6 + 4, none⟩ (.int .i32 (getP (unlink1 S i p) p 4))) → R U A (unlink2 (unlink1 S i p) p) X ∧ Keep U w' X) := fun X hX => by
        rw [HE.out]
        exact ⟨(r2.setPg hlq 4 (by omega) _).twin hX, (r2.kPg k2 hlq _ _).twin hX⟩
      have HH : Hid (R U A (unlink1 S i p) w2) := r2
      clear hq r2 k2 hlv
      go_wp2_with fail
      go_region_with (go_at_call 17; refine (page_any (U := U) (A := A) (S := unlink1 S i p) ?_ q hlq hqb).mono ?_; exact HH.out.twin ⟨rfl, rfl, rfl, rfl⟩; rintro e w9 ⟨rfl, rfl⟩)
      all_goals go_wp2
      all_goals go_meet
      all_goals exact HR.out _ ⟨rfl, rfl, rfl, rfl⟩
  case rest =>
  obtain ⟨r4, k4⟩ := hcut
  have hp2 := hp1.unlink2 p
  clear r2 k2 a2 b2 a3 b3
  obtain ⟨a2, b2⟩ := r4.pg4 hp2
  obtain ⟨a3, b3⟩ := r4.pg5 hp2
  go_wp2
  go_end0
  have r5 := r4.setPg hp2 4 (by omega) (-1)
  exact ⟨rfl, r5.setPg (hp2.setP _ _ _) 5 (by omega) _, r5.kPg (r4.kPg k4 hp2 _ _) (hp2.setP _ _ _) _ _⟩

end Go.Proofs.Ybulkcqic
