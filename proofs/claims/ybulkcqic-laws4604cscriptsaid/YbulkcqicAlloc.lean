/-
  alloc, behind the lock.
-/
import Derived.Test.YbulkcqicGive
import Derived.Test.YbulkcqicLocks
import Derived.Conc.MuLone
import Derived.BigRegion
import Derived.Deep.RegionHeld3
namespace Go.Proofs.Ybulkcqic
open Go.RowKit Go.MuLone

def setF (S : St) (i : Nat) (v : Int) : St := { S with b := upd2 S.b i 49 v }
def setPage (S : St) (p c : Nat) : St := setP (setP (setP (setP (setP (setP S p 0 c) p 1 0) p 2 0) p 3 0) p 4 (-1)) p 5 (-1)
/-- A free page becomes size c's. -/
def take1 (S : St) (p : Nat) : St :=
  let S1 := unlinkS S 179 p
  let S2 := setH S1 180 (wrap64 (S1.w 180 - 1))
  setF S2 (p / 8) (wrap64 (S2.b (p / 8) 49 - 1))
def takeS (S : St) (c p : Nat) : St :=
  let S3 := take1 S p
  let S4 := setH S3 (91 + c) (wrap32 (S3.w (91 + c) + 1))
  linkS (setPage S4 p c) (3 + c) p
/-- What taking page p out of the free list asks. -/
structure TakeOk (S : St) (p : Nat) : Prop where
  live : Live S p
  lt : p < 1000000
  pr : Lk S (getP S p 4)
  nx : Lk S (getP (unlink1 S 179 p) p 5)

theorem R.fr {U : Nat → Prop} {A : Ad} {S : St} {w : World} (h : R U A S w) {p : Nat} (hp : Live S p) : Has w ⟨A.bb (p / 8), 49, none⟩ (.int .i64 (S.b (p / 8) 49)) := h.blk (p / 8) hp.1 hp.2 49 (by omega)
theorem R.setFr {U : Nat → Prop} {A : Ad} {S : St} {w : World} (h : R U A S w) {p : Nat} (hp : Live S p) (v : Int) : R U A (setF S (p / 8) v) (w.setCell ⟨A.bb (p / 8), 49, none⟩ (.int .i64 v)) := h.setB hp.1 hp.2 (j := 49) (by omega) (by omega) v
theorem Live.unlinkS {S : St} {q : Nat} (h : Live S q) (i p : Nat) : Live (unlinkS S i p) q := by
  unfold Live
  rw [(unlinkS_nb _ _ _).1, (unlinkS_nb _ _ _).2]
  exact h
theorem unlinkS_w (S : St) (i p j : Nat) (h : j ≠ i) : (unlinkS S i p).w j = S.w j := by
  have e1 : (unlink1 S i p).w j = S.w j := by
    unfold unlink1
    split
    · simp [setH, upd, h]
    · rfl
  have e2 : (unlink2 (unlink1 S i p) p).w j = (unlink1 S i p).w j := by
    unfold unlink2
    split <;> rfl
  exact e2.trans e1

theorem linkS_w (S : St) (i p j : Nat) (h : j ≠ i) : (linkS S i p).w j = S.w j := by
  unfold linkS
  simp only [setH, setP, upd, h, if_false]
  split <;> rfl
theorem linkN_w (S : St) (n k j : Nat) (h : j ≠ 179) : (linkN S n k).w j = S.w j := by
  induction k with
  | zero => rfl
  | succ k ih => exact (linkS_w _ _ _ _ h).trans ih
theorem freeS_w (S : St) (n j : Nat) (h : j < 179) : (freeS S n).w j = S.w j := by
  have e : (freeS S n).w j = (linkN (newS S n) n 8).w j := by
    have h1 : j ≠ 180 := by omega
    have h2 : j ≠ 181 := by omega
    simp [freeS, setH, upd, h1, h2]
  rw [e, linkN_w _ _ _ _ (by omega)]
  rfl

theorem R.setPage {U : Nat → Prop} {A : Ad} {S : St} {w w0 : World} (h : R U A S w) (hk : Keep U w0 w) {p : Nat} (hp : Live S p) (c : Nat) :
    R U A (setPage S p c) ((((((w.setCell ⟨A.bb (p / 8), 1 + p % 8 * 6, none⟩ (.int .u8 (c : Int))).setCell ⟨A.bb (p / 8), 1 + p % 8 * 6 + 1, none⟩ (.int .u16 0)).setCell ⟨A.bb (p / 8), 1 + p % 8 * 6 + 2, none⟩ (.int .u16 0)).setCell ⟨A.bb (p / 8), 1 + p % 8 * 6 + 3, none⟩ (.int .u16 0)).setCell ⟨A.bb (p / 8), 1 + p % 8 * 6 + 4, none⟩ (.int .i32 (-1))).setCell ⟨A.bb (p / 8), 1 + p % 8 * 6 + 5, none⟩ (.int .i32 (-1))) ∧
    Keep U w0 ((((((w.setCell ⟨A.bb (p / 8), 1 + p % 8 * 6, none⟩ (.int .u8 (c : Int))).setCell ⟨A.bb (p / 8), 1 + p % 8 * 6 + 1, none⟩ (.int .u16 0)).setCell ⟨A.bb (p / 8), 1 + p % 8 * 6 + 2, none⟩ (.int .u16 0)).setCell ⟨A.bb (p / 8), 1 + p % 8 * 6 + 3, none⟩ (.int .u16 0)).setCell ⟨A.bb (p / 8), 1 + p % 8 * 6 + 4, none⟩ (.int .i32 (-1))).setCell ⟨A.bb (p / 8), 1 + p % 8 * 6 + 5, none⟩ (.int .i32 (-1))) := by
  have r0 := h.setPg hp 0 (by omega) c
  have r1 := r0.setPg (p := p) hp 1 (by omega) 0
  have r2 := r1.setPg (p := p) hp 2 (by omega) 0
  have r3 := r2.setPg (p := p) hp 3 (by omega) 0
  have r4 := r3.setPg (p := p) hp 4 (by omega) (-1)
  have r5 := r4.setPg (p := p) hp 5 (by omega) (-1)
  exact ⟨r5, r4.kPg (p := p) (r3.kPg (p := p) (r2.kPg (p := p) (r1.kPg (p := p) (r0.kPg (p := p) (h.kPg hk hp _ _) hp _ _) hp _ _) hp _ _) hp _ _) hp _ _⟩

/-- The same addresses, the slabs' own spelt out. -/
abbrev Ad.at (B : Ad) (s : Nat) : Ad := ⟨s, B.vb, B.ab, B.cap, B.bb, B.db, B.tag⟩
theorem Ad.at_eq {B : Ad} {s : Nat} (h : B.sb = s) : B = B.at s := by
  subst h
  rfl

/-- The page that alloc takes a chunk of, and the state then. -/
def Took (S : St) (c : Nat) (S' : St) (p : Nat) : Prop :=
  (S.w (3 + c) = (p : Int) ∧ S' = S) ∨
  (S.w (3 + c) = -1 ∧ S.w 179 = (p : Int) ∧ S' = takeS S c p) ∨
  (S.w (3 + c) = -1 ∧ S.w 179 = -1 ∧ ∃ n, n ≤ S.nb ∧ (n < S.nb → S.live n = false) ∧ p = n * 8 ∧ S' = takeS (freeS S n) c p)
/-- Where page p's chunk k, of sz bytes, begins in its block. -/
def atC (p k sz : Nat) : Nat := p % 8 * 16384 + k * sz
def hand1 (S : St) (p sz : Nat) : St :=
  if getP S p 3 = 0 then setP S p 2 (getP S p 2 + 1)
  else setP S p 3 (S.d (p / 8) (atC p ((getP S p 3).toNat - 1) sz) + 256 * S.d (p / 8) (atC p ((getP S p 3).toNat - 1) sz + 1))
def hand2 (S : St) (p sz : Nat) : St := setP (hand1 S p sz) p 1 (getP S p 1 + 1)
def handS (S : St) (c p sz : Nat) : St := if getP S p 1 + 1 = ((16384 / sz : Nat) : Int) then unlinkS (hand2 S p sz) (3 + c) p else hand2 S p sz
def chunkOf (S : St) (p : Nat) : Nat := if getP S p 3 = 0 then (getP S p 2).toNat else (getP S p 3).toNat - 1
/-- What handing out a chunk of page p asks. -/
structure HandOk (S : St) (c p sz : Nat) : Prop where
  live : Live S p
  lt : p < 1000000
  us : ∃ x : Nat, getP S p 1 = x ∧ x < 60000
  hd : ∃ x : Nat, getP S p 2 = x ∧ x < 60000
  rt : ∃ x : Nat, getP S p 3 = x ∧ x < 60000
  fits : chunkOf S p * sz + sz ≤ 16384
  two : getP S p 3 ≠ 0 → ∃ lo hi : Nat, lo < 256 ∧ hi < 256 ∧ S.d (p / 8) (atC p ((getP S p 3).toNat - 1) sz) = lo ∧ S.d (p / 8) (atC p ((getP S p 3).toNat - 1) sz + 1) = hi
  full : getP S p 1 + 1 = ((16384 / sz : Nat) : Int) → Lk (hand2 S p sz) (getP (hand2 S p sz) p 4) ∧ Lk (hand2 S p sz) (getP (unlink1 (hand2 S p sz) (3 + c) p) p 5)

theorem takeS_w (S : St) (c p j : Nat) (h : j ≠ 179 ∧ j ≠ 180 ∧ j ≠ 91 + c ∧ j ≠ 3 + c) : (takeS S c p).w j = S.w j := by
  unfold takeS
  simp only []
  rw [linkS_w _ _ _ _ h.2.2.2]
  simp only [setPage, setP, setH, take1, setF, upd, h.2.1, h.2.2.1, if_false]
  exact unlinkS_w _ _ _ _ h.1
theorem hand2_w (S : St) (p sz : Nat) : (hand2 S p sz).w = S.w := by
  unfold hand2 hand1
  split <;> rfl
theorem handS_w (S : St) (c p sz j : Nat) (h : j ≠ 3 + c) : (handS S c p sz).w j = S.w j := by
  unfold handS
  split
  · rw [unlinkS_w _ _ _ _ h, hand2_w]
  · rw [hand2_w]
theorem Took.one {S S' : St} {c p : Nat} (h : Took S c S' p) (hc : c < 64) : S'.w 1 = S.w 1 := by
  rcases h with ⟨_, rfl⟩ | ⟨_, _, rfl⟩ | ⟨_, _, n, _, _, _, rfl⟩
  · rfl
  · exact takeS_w _ _ _ _ (by omega)
  · rw [takeS_w _ _ _ _ (by omega), freeS_w _ _ _ (by omega)]

theorem class_sz (sz c : Nat) (hs : sz = 8 * (c + 1)) (hc : c < 64) (w : World) : Calls Yba.prog 13 #[.int .i64 (sz : Int)] w fun e w' => e = .returned (.int .i64 c) ∧ w' = w := by
  subst hs
  exact class_any c hc w

set_option maxRecDepth 100000 in
set_option maxHeartbeats 2000000 in
theorem alloc_any {U : Nat → Prop} {A : Ad} {S0 : St} {w : World} (h : R U A S0 w) (c sz : Nat) (hc : c < 64) (hsz : sz = 8 * (c + 1)) (hm : S0.w 1 = 0) (S : St) (hS : S = setH S0 1 1) (hnb : S.nb ≤ 1000)
    (h1 : S.w (3 + c) = -1 ∨ ∃ q : Nat, S.w (3 + c) = q)
    (h2 : S.w (3 + c) = -1 → S.w 179 ≠ -1 → ∃ q : Nat, S.w 179 = q ∧ TakeOk S q)
    (h3 : S.w (3 + c) = -1 → S.w 179 = -1 → ∀ n, n ≤ S.nb → (n < S.nb → S.live n = false) → TakeOk (freeS S n) (n * 8))
    (h4 : ∀ S' p, Took S c S' p → HandOk S' c p sz) :
    Calls Yba.prog 6 #[.pointer (some ⟨A.sb, 0, none⟩), .int .i64 (sz : Int)] w fun e w' =>
      ∃ A' S' p, A'.sb = A.sb ∧ Took S c S' p ∧ e = .returned (.int .u64 ((p * 16384 + chunkOf S' p * sz : Nat) : Int)) ∧ R U A' (setH (handS S' c p sz) 1 0) w' ∧ Keep U w w' := by
  obtain ⟨mu, muf⟩ := h.slab 1 (by omega)
  have mu' : w.cell? ⟨A.sb, 1, none⟩ = some (.int .i32 0) := by rw [mu, slabV, if_neg (by omega), hm]; rfl
  have hR1 : R U A S (w.setCell ⟨A.sb, 1, none⟩ (.int .i32 1)) := by rw [hS]; exact h.setW (i := 1) (by omega) (by omega) 1
  have hK1 : Keep U w (w.setCell ⟨A.sb, 1, none⟩ (.int .i32 1)) := h.kHd (Keep.refl _ _) _ _
  have HZ : Hid (sz = 8 * (c + 1)) := hsz
  have HS : Hid (S = setH S0 1 1) := hS
  have H1 : Hid (S.w (3 + c) = -1 ∨ ∃ q : Nat, S.w (3 + c) = q) := h1
  have H2 : Hid (S.w (3 + c) = -1 → S.w 179 ≠ -1 → ∃ q : Nat, S.w 179 = q ∧ TakeOk S q) := h2
  have H3 : Hid (S.w (3 + c) = -1 → S.w 179 = -1 → ∀ n, n ≤ S.nb → (n < S.nb → S.live n = false) → TakeOk (freeS S n) (n * 8)) := h3
  have H4 : Hid (∀ S' p, Took S c S' p → HandOk S' c p sz) := h4
  have hz0 : 8 ≤ sz := by omega
  have hz1 : sz ≤ 512 := by omega
  clear h1 h2 h3 h4 hS
  go_enter_defers Yba.func6, Yba.ntmps6
  go_wp2_with fail
  refine (lock_free Yba.muLib ⟨A.sb, 1, none⟩ _ mu' muf).mono ?_
  rintro e w1 ⟨rfl, rfl⟩
  obtain ⟨w1, e1⟩ : ∃ x, x = w.setCell ⟨A.sb, 1, none⟩ (.int .i32 1) := ⟨_, rfl⟩
  rw [← e1] at hR1 hK1 ⊢
  clear e1 mu mu' muf h hm hsz
  go_wp2_with fail
  refine (class_sz sz c HZ.out hc w1).mono ?_
  rintro e w2 ⟨rfl, rfl⟩
  obtain ⟨f1, f1'⟩ := hR1.hd (i := 3 + c) (by omega) (by omega)
  have j0 : (0 : Int) ≤ (c : Int) := by omega
  have j1 : (c : Int) < 88 := by omega
  go_upto_region 4 with fail
  go_cut [6] from 18 to 23 (fun v wx => v = .int .i32 (S.w (3 + c)) ∧ w2 = wx)
  case first =>
    go_wp2
    go_meet
    case rel => exact ⟨rfl, rfl⟩
  case rest =>
  obtain ⟨rfl, rfl⟩ := hcut
  go_upto_region 5 with fail
  go_cut [25] from 24 to 24 (fun v wx => v = .bool (S.w (3 + c) == -1) ∧ w2 = wx)
  case first =>
    go_wp2
    go_meet
    case rel => exact ⟨rfl, rfl⟩
  case rest =>
  obtain ⟨rfl, rfl⟩ := hcut
  go_upto_if 25 with fail
  go_cut [6] from 25 to 74 (fun v wx => ∃ A' S' p, v = .int .i32 ((p : Nat) : Int) ∧ A'.sb = A.sb ∧ Took S c S' p ∧ R U A' S' wx ∧ Keep U w wx)
  case first =>
    rcases H1.out with hm1 | ⟨q, hq⟩
    · have t0 : (S.w (3 + c) == -1) = true := by simp [hm1]
      rw [t0]
      clear t0
      have HM : Hid (S.w (3 + c) = -1) := hm1
      clear hm1
      have hsk := free_there (S := S) hR1
      have hsn := free_none (S := S) hR1
      go_upto_region 6 with fail
      go_cut [6] from 26 to 27 (fun v wx => ∃ A1 T p, v = .int .i32 ((p : Nat) : Int) ∧ A1.sb = A.sb ∧ R U A1 T wx ∧ Keep U w wx ∧ TakeOk T p ∧ T.w (3 + c) = -1 ∧ Hid (Took S c (takeS T c p) p))
      case first =>
        by_cases hf : S.w 179 = -1
        · have HF : Hid (S.w 179 = -1) := hf
          have hsn' := hsn hf hnb
          clear hf hsn hsk
          go_wp2_with fail
          refine hsn'.mono ?_
          rintro e w3 ⟨n, A1, hn, hnl, hA1, rfl, hR3, hK3⟩
          go_wp2
          go_meet
          case rel => exact ⟨A1, freeS S n, n * 8, rfl, hA1, hR3, hK1.trans hK3, H3.out HM.out HF.out n hn hnl, (freeS_w S n _ (by omega)).trans HM.out, .inr (.inr ⟨HM.out, HF.out, n, hn, hnl, rfl, rfl⟩)⟩
        · obtain ⟨q, hq, hok⟩ := H2.out HM.out hf
          have HQ : Hid (S.w 179 = q) := hq
          have hsk' := hsk hf
          clear hf hsn hsk hq
          go_wp2_with fail
          refine hsk'.mono ?_
          rintro e w3 ⟨rfl, rfl⟩
          go_wp2
          go_meet
          case rel => exact ⟨A, S, q, by rw [HQ.out], rfl, hR1, hK1, hok, HM.out, .inr (.inl ⟨HM.out, HQ.out, rfl⟩)⟩
      case rest =>
      obtain ⟨A1, T, p, rfl, hA1, hRT, hKT, hok, hTm, hT⟩ := hcut
      obtain ⟨w3, e3⟩ : ∃ x, x = wc := ⟨_, rfl⟩
      subst e3
      rw [Ad.at_eq hA1] at hRT
      obtain ⟨B, HB⟩ : ∃ X, Hid (X = A1.at A.sb) := ⟨_, rfl⟩
      have hBs : B.sb = A.sb := by rw [HB.out]
      clear hA1
      obtain ⟨l1, m1⟩ := hRT.hd (i := 179) (by omega) (by omega)
      clear hR1 hK1 f1 f1' hsk hsn
      go_wp2_with fail
      refine (unlink_any hRT 179 p hok.live hok.lt (by omega) (by omega) hok.pr hok.nx).mono ?_
      rintro e w4 ⟨rfl, hR4, hK4⟩
      have hl4 := hok.live.unlinkS 179 p
      obtain ⟨l2, m2⟩ := hR4.lw (i := 180) (by omega) (by omega)
      go_upto_region 8 with fail
      go_cut [34] from 35 to 40 (fun _ wx => R U (A1.at A.sb) (setH (unlinkS T 179 p) 180 (wrap64 ((unlinkS T 179 p).w 180 - 1))) wx ∧ Keep U w wx)
      case first =>
        go_wp2
        go_meet
        case rel => exact ⟨hR4.setLw (by omega) (by omega) _, hR4.kHd (hKT.trans hK4) _ _⟩
      case rest =>
      obtain ⟨hR5, hK5⟩ := hcut
      obtain ⟨w5, e5⟩ : ∃ x, x = wc := ⟨_, rfl⟩
      subst e5
      clear hR4 hK4 l1 m1 l2 m2 hRT hKT
      obtain ⟨T2, HT2⟩ : ∃ X, Hid (X = setH (unlinkS T 179 p) 180 (wrap64 ((unlinkS T 179 p).w 180 - 1))) := ⟨_, rfl⟩
      rw [← HT2.out] at hR5
      have hl5 : Live T2 p := by rw [HT2.out]; exact hl4
      have hplt := hok.lt
      obtain ⟨l1, m1⟩ := hR5.fr hl5
      go_upto_region 9 with fail
      go_cut [41] from 42 to 49 (fun _ wx => R U (A1.at A.sb) (setF T2 (p / 8) (wrap64 (T2.b (p / 8) 49 - 1))) wx ∧ Keep U w wx)
      case first =>
        go_wp2_with fail
        refine (block_any hR5 p hl5 hplt).mono ?_
        rintro e w6 ⟨rfl, rfl⟩
        go_wp2
        go_meet
        case rel => exact ⟨hR5.setFr hl5 _, hR5.kPg hK5 hl5 _ _⟩
      case rest =>
      obtain ⟨hR6, hK6⟩ := hcut
      obtain ⟨w6, e6⟩ : ∃ x, x = wc := ⟨_, rfl⟩
      subst e6
      clear l1 m1 hR5 hK5
      obtain ⟨T3, HT3⟩ : ∃ X, Hid (X = setF T2 (p / 8) (wrap64 (T2.b (p / 8) 49 - 1))) := ⟨_, rfl⟩
      rw [← HT3.out] at hR6
      have hl6 : Live T3 p := by rw [HT3.out]; exact hl5
      obtain ⟨l1, m1⟩ := hR6.hd (i := 91 + c) (by omega) (by omega)
      have HR7 : Hid (∀ X : World, Twin X (w6.setCell ⟨A.sb, 91 + c, none⟩ (.int .i32 (wrap32 (T3.w (91 + c) + 1)))) → R U (A1.at A.sb) (setH T3 (91 + c) (wrap32 (T3.w (91 + c) + 1))) X ∧ Keep U w X) := fun X hX =>
        ⟨(hR6.setHd (by omega) (by omega) _).twin hX, (hR6.kHd hK6 _ _).twin hX⟩
      go_upto_region 10 with fail
      go_cut [50] from 51 to 59 (fun _ wx => R U (A1.at A.sb) (setH T3 (91 + c) (wrap32 (T3.w (91 + c) + 1))) wx ∧ Keep U w wx)
      case first =>
        clear hR6 hK6
        go_wp2_with fail
        go_big_region
        go_wp2
        go_meet
        case rel => exact HR7.out _ ⟨rfl, rfl, rfl, rfl⟩
      case rest =>
      obtain ⟨hR7, hK7⟩ := hcut
      obtain ⟨w7, e7⟩ : ∃ x, x = wc := ⟨_, rfl⟩
      subst e7
      clear l1 m1 hR6 hK6 HR7
      obtain ⟨T4, HT4⟩ : ∃ X, Hid (X = setH T3 (91 + c) (wrap32 (T3.w (91 + c) + 1))) := ⟨_, rfl⟩
      rw [← HT4.out] at hR7
      have hl7 : Live T4 p := by rw [HT4.out]; exact hl6
      obtain ⟨a0, b0⟩ := hR7.pg0 hl7
      obtain ⟨a1, b1⟩ := hR7.pg1 hl7
      obtain ⟨a2, b2⟩ := hR7.pg2 hl7
      obtain ⟨a3, b3⟩ := hR7.pg3 hl7
      obtain ⟨a4, b4⟩ := hR7.pg4 hl7
      obtain ⟨a5, b5⟩ := hR7.pg5 hl7
      go_upto_region 11 with fail
      go_cut [60] from 61 to 66 (fun _ wx => R U (A1.at A.sb) (setPage T4 p c) wx ∧ Keep U w wx)
      case first =>
        go_wp2_with fail
        refine (page_any hR7 p hl7 hplt).mono ?_
        rintro e w8 ⟨rfl, rfl⟩
        go_wp2
        go_meet
        case rel => exact hR7.setPage hK7 hl7 c
      case rest =>
      obtain ⟨hR8, hK8⟩ := hcut
      obtain ⟨w8, e8⟩ : ∃ x, x = wc := ⟨_, rfl⟩
      subst e8
      have hw4 : T4.w (3 + c) = -1 := by
        have n1 : 3 + c ≠ 91 + c := by omega
        have n2 : 3 + c ≠ 180 := by omega
        rw [HT4.out, HT3.out, HT2.out]
        simp only [setH, setF, upd, n1, n2, if_false]
        rw [unlinkS_w _ _ _ _ (by omega)]
        exact hTm
      have HTK : Hid (takeS T c p = linkS (setPage T4 p c) (3 + c) p) := by
        show takeS T c p = _
        rw [HT4.out, HT3.out, HT2.out]
        rfl
      have hlk8 : Lk (setPage T4 p c) ((setPage T4 p c).w (3 + c)) := .inl hw4
      clear a0 b0 a1 b1 a2 b2 a3 b3 a4 b4 a5 b5 hR7 hK7
      go_wp2_with fail
      refine (link_any hR8 (3 + c) p hl7 hplt (by omega) (by omega) hlk8).mono ?_
      rintro e w9 ⟨rfl, hR9, hK9⟩
      go_wp2
      go_meet
      case rel => exact ⟨A1.at A.sb, takeS T c p, p, rfl, rfl, hT.out, by rw [HTK.out]; exact hR9, hK8.trans hK9⟩
    · have t0 : (S.w (3 + c) == -1) = false := by simp [hq]
      rw [t0]
      have HQ : Hid (S.w (3 + c) = q) := hq
      clear t0 hq
      go_wp2
      go_meet
      case rel => exact ⟨A, S, q, by rw [HQ.out], rfl, .inl ⟨HQ.out, rfl⟩, hR1, hK1⟩
  case rest =>
  obtain ⟨A1, S', p, rfl, hA', hT, hR2, hK2⟩ := hcut
  rw [Ad.at_eq hA'] at hR2
  obtain ⟨w3, e3⟩ : ∃ x, x = wc := ⟨_, rfl⟩
  subst e3
  have HT : Hid (Took S c S' p) := hT
  have HH : Hid (HandOk S' c p sz) := H4.out S' p hT
  have hlp := HH.out.live
  have hplt := HH.out.lt
  clear hT hA' hR1 hK1 f1 f1' H2 H3 H4 H1
  obtain ⟨us, hus, husb⟩ := HH.out.us
  obtain ⟨hd, hhd, hhdb⟩ := HH.out.hd
  obtain ⟨rt, hrt, hrtb⟩ := HH.out.rt
  obtain ⟨a1, b1⟩ := hR2.pg1 hlp
  obtain ⟨a2, b2⟩ := hR2.pg2 hlp
  obtain ⟨a3, b3⟩ := hR2.pg3 hlp
  rw [hus] at a1
  rw [hhd] at a2
  rw [hrt] at a3
  have HU : Hid (getP S' p 1 = us) := hus
  have HD : Hid (getP S' p 2 = hd) := hhd
  have HT3 : Hid (getP S' p 3 = rt) := hrt
  clear hus hhd hrt
  go_wp2_with fail
  refine (page_any hR2 p hlp hplt).mono ?_
  rintro e w4 ⟨rfl, rfl⟩
  go_upto_region 15 with fail
  go_cut [87] from 83 to 86 (fun v wx => v = .bool ((rt : Int) != 0) ∧ w4 = wx)
  case first =>
    go_wp2
    go_meet
    case rel => exact ⟨rfl, rfl⟩
  case rest =>
  obtain ⟨rfl, rfl⟩ := hcut
  go_upto_if 87 with fail
  go_cut [8] from 87 to 110 (fun v wx => v = .int .i64 ((chunkOf S' p : Nat) : Int) ∧ R U (A1.at A.sb) (hand1 S' p sz) wx ∧ Keep U w wx)
  case first =>
    by_cases hr0 : rt = 0
    · have t0 : ((rt : Int) != 0) = false := by simp [hr0]
      rw [t0]
      have HR0 : Hid (rt = 0) := hr0
      clear t0 hr0
      go_wp2
      go_meet
      case rel =>
        have e3 : getP S' p 3 = 0 := by rw [HT3.out, HR0.out]; rfl
        have e1 : hand1 S' p sz = setP S' p 2 (getP S' p 2 + 1) := by unfold hand1; rw [if_pos e3]
        have e2 : chunkOf S' p = hd := by unfold chunkOf; rw [if_pos e3, HD.out]; simp
        rw [e1, e2, HD.out]
        exact ⟨rfl, hR2.setPg hlp 2 (by omega) _, hR2.kPg hK2 hlp _ _⟩
    · have t0 : ((rt : Int) != 0) = true := by simpa using hr0
      rw [t0]
      obtain ⟨lo, hi, hlo, hhi, hd0, hd1⟩ := HH.out.two (by rw [HT3.out]; simpa using hr0)
      obtain ⟨k, rfl⟩ : ∃ k, rt = k + 1 := ⟨rt - 1, by omega⟩
      have e3 : getP S' p 3 = ((k + 1 : Nat) : Int) := HT3.out
      have ek : (getP S' p 3).toNat - 1 = k := by rw [e3]; simp
      rw [ek] at hd0 hd1
      have e2 : chunkOf S' p = k := by unfold chunkOf; rw [if_neg (by rw [e3]; simp; omega), ek]
      have hfit : k * sz + sz ≤ 16384 := by have := HH.out.fits; rwa [e2] at this
      have hat : atC p k sz + 1 < K := by unfold atC K; omega
      have c0 := (hR2.dat (p / 8) hlp.1 hlp.2 (atC p k sz) (by omega)).1
      have c1 := (hR2.dat (p / 8) hlp.1 hlp.2 (atC p k sz + 1) hat).1
      rw [hd0] at c0
      rw [hd1] at c1
      have e1 : hand1 S' p sz = setP S' p 3 ((lo + 256 * hi : Nat) : Int) := by
        unfold hand1
        rw [if_neg (by rw [e3]; simp; omega), ek, hd0, hd1]
        simp
      have HR7 : Hid (∀ X Y : World, Twin X (w4.alloc (.cells #[] 71)) → Twin Y (X.setCell ⟨A1.bb (p / 8), 1 + p % 8 * 6 + 3, none⟩ (.int .u16 ((lo + 256 * hi : Nat) : Int))) → Value.int .i64 (k : Int) = .int .i64 ((chunkOf S' p : Nat) : Int) ∧ R U (A1.at A.sb) (hand1 S' p sz) Y ∧ Keep U w Y) := fun X Y hX hY => by
        rw [e1, e2]
        have r1 := (hR2.alloc (.cells #[] 71)).twin hX
        exact ⟨rfl, (r1.setPg (p := p) hlp 3 (by omega) _).twin hY, (r1.kPg (p := p) ((hK2.trans ((Keep.refl U _).alloc hR2.ub _)).twin hX) hlp _ _).twin hY⟩
      have HRw : Hid (R U (A1.at A.sb) S' w4) := hR2
      have HC : Hid (w4.cell? ⟨A1.db (p / 8), atC p k sz, none⟩ = some (.int .u8 (lo : Int)) ∧ w4.cell? ⟨A1.db (p / 8), atC p k sz + 1, none⟩ = some (.int .u8 (hi : Int))) := ⟨c0, c1⟩
      have HF : Hid (k * sz + sz ≤ 16384) := hfit
      have HA3 : Hid (∀ X : World, Twin X (w4.alloc (.cells #[] 71)) → X.cell? ⟨A1.bb (p / 8), 1 + p % 8 * 6 + 3, none⟩ = some (.int .u16 ((k + 1 : Nat) : Int)) ∧ X.frozen? ⟨A1.bb (p / 8), 1 + p % 8 * 6 + 3, none⟩ = false) := fun X hX =>
        (Has.alloc ⟨a3, b3⟩ (.cells #[] 71)).of_block (by rw [hX.1])
      clear t0 hr0 e3 ek hd0 hd1 c0 c1 e1 e2 hfit hat hR2 hK2
      go_upto_region 17 with fail
      clear a1 b1 a2 b2
      refine wp_region_noPanic ?_
      go_region_with (first
        | (go_at_call 20; refine (chunk_any (U := U) (A := A1.at A.sb) (S := S') ?_ p k sz hlp hplt (by omega) HF.out).mono ?_; exact HRw.out.twin ⟨rfl, rfl, rfl, rfl⟩; rintro e w5 ⟨rfl, rfl⟩)
        | (go_at_call 19; refine (u16_any (A1.db (p / 8)) (atC p k sz) sz _ lo hi _ (by omega) hlo hhi ?_ ?_).mono ?_; exact HC.out.1; exact HC.out.2; rintro e w5 ⟨rfl, hw5⟩; obtain ⟨x5, y5⟩ := HA3.out w5 hw5))
      all_goals refine NoPanic.normal ?_
      all_goals go_wp2
      all_goals go_meet
      all_goals exact HR7.out _ _ (by assumption) ⟨rfl, rfl, rfl, rfl⟩
  case rest =>
  obtain ⟨rfl, hR3, hK3⟩ := hcut
  obtain ⟨w5, e5⟩ : ∃ x, x = wc := ⟨_, rfl⟩
  subst e5
  clear a1 b1 a2 b2 a3 b3 hR2 hK2
  have hl3 : Live (hand1 S' p sz) p := by unfold hand1; split <;> exact hlp
  have HU1 : Hid (getP (hand1 S' p sz) p 1 = us) := by
    show getP (hand1 S' p sz) p 1 = us
    rw [← HU.out]
    unfold hand1 getP setP
    split <;> exact upd2_other _ _ _ _ _ _ (by omega)
  obtain ⟨a1, b1⟩ := hR3.pg1 hl3
  rw [HU1.out] at a1
  go_upto_region 19 with fail
  go_cut [111] from 112 to 117 (fun _ wx => R U (A1.at A.sb) (hand2 S' p sz) wx ∧ Keep U w wx)
  case first =>
    go_wp2
    go_meet
    case rel =>
      have e : hand2 S' p sz = setP (hand1 S' p sz) p 1 ((us : Int) + 1) := by unfold hand2; rw [HU.out]
      rw [e]
      exact ⟨hR3.setPg hl3 1 (by omega) _, hR3.kPg hK3 hl3 _ _⟩
  case rest =>
  obtain ⟨hR4, hK4⟩ := hcut
  obtain ⟨w6, e6⟩ : ∃ x, x = wc := ⟨_, rfl⟩
  subst e6
  clear a1 b1 hR3 hK3
  have hl4 : Live (hand2 S' p sz) p := hl3
  have HU2 : Hid (getP (hand2 S' p sz) p 1 = (us : Int) + 1) := by
    show getP (hand2 S' p sz) p 1 = _
    rw [← HU.out]
    unfold hand2 getP setP
    exact upd2_same _ _ _ _
  obtain ⟨a1, b1⟩ := hR4.pg1 hl4
  rw [HU2.out] at a1
  go_upto_region 20 with fail
  go_cut [125] from 118 to 124 (fun v wx => (∃ b : Bool, v = .bool b ∧ (b = true ↔ us + 1 = 16384 / sz)) ∧ Twin wx w6)
  case first =>
    go_wp2_with fail
    go_quiet (fail)
    go_wp2
    go_meet
    case rel =>
      refine ⟨⟨_, rfl, ?_⟩, rfl, rfl, rfl, rfl⟩
      have e : (16384 : Int) / (sz : Int) = ((16384 / sz : Nat) : Int) := by simp
      rw [beq_iff_eq, e]
      omega
  case rest =>
  obtain ⟨⟨b, rfl, hb⟩, htw⟩ := hcut
  have hR5 := hR4.twin htw
  have hK5 := hK4.twin htw
  obtain ⟨w7, e7⟩ : ∃ x, x = wc := ⟨_, rfl⟩
  subst e7
  clear a1 b1 hR4 hK4 htw
  have HB : Hid (b = true ↔ us + 1 = 16384 / sz) := hb
  clear hb
  obtain ⟨q0, q0'⟩ := hR5.hd (i := 3 + c) (by omega) (by omega)
  go_upto_if 125 with fail
  go_cut [126] from 125 to 133 (fun _ wx => R U (A1.at A.sb) (handS S' c p sz) wx ∧ Keep U w wx)
  case first =>
    cases b with
    | true =>
      have hfull : getP S' p 1 + 1 = ((16384 / sz : Nat) : Int) := by have := HB.out.1 rfl; rw [HU.out]; omega
      have hlk := HH.out.full hfull
      have HE : Hid (handS S' c p sz = unlinkS (hand2 S' p sz) (3 + c) p) := by
        show handS S' c p sz = _
        unfold handS
        rw [if_pos hfull]
      clear hfull
      go_wp2_with fail
      refine (unlink_any hR5 (3 + c) p hl4 hplt (by omega) (by omega) hlk.1 hlk.2).mono ?_
      rintro e w8 ⟨rfl, hR6, hK6⟩
      go_wp2
      go_meet
      case rel => exact ⟨by rw [HE.out]; exact hR6, hK5.trans hK6⟩
    | false =>
      have HE : Hid (handS S' c p sz = hand2 S' p sz) := by
        show handS S' c p sz = _
        unfold handS
        rw [if_neg (by rw [HU.out]; intro e; exact absurd (HB.out.2 (by omega)) (by simp))]
      go_wp2
      go_meet
      case rel => exact ⟨by rw [HE.out]; exact hR5, hK5⟩
  case rest =>
  obtain ⟨hR6, hK6⟩ := hcut
  obtain ⟨w8, e8⟩ : ∃ x, x = wc := ⟨_, rfl⟩
  subst e8
  clear q0 q0' hR5 hK5
  obtain ⟨ch, HCH⟩ : ∃ x, Hid (x = chunkOf S' p) := ⟨_, rfl⟩
  have hfit : ch * sz + sz ≤ 16384 := by rw [HCH.out]; exact HH.out.fits
  rw [← HCH.out]
  have hw1 : (handS S' c p sz).w 1 = 1 := by
    rw [handS_w _ _ _ _ _ (by omega), HT.out.one hc, HS.out]
    rfl
  obtain ⟨mu, muf⟩ := hR6.slab 1 (by omega)
  have mu' : w8.cell? ⟨A.sb, 1, none⟩ = some (.int .i32 1) := by
    rw [slabV, if_neg (by omega), hw1] at mu
    exact mu
  have muf' : w8.frozen? ⟨A.sb, 1, none⟩ = false := muf
  clear mu muf
  go_wp2
  refine leaves_cons (f := 12) (args := #[.pointer (some ⟨A.sb, 1, none⟩)]) (by simp) (by simp [go_sem]) ?_
  refine (unlock_deferred Yba.muLib ⟨A.sb, 1, none⟩ .returning _ mu' muf').mono ?_
  rintro e u' w'' ⟨rfl, rfl, rfl⟩
  refine ⟨_, results_tmp rfl _ _ _, A1.at A.sb, S', p, rfl, HT.out, ?_, hR6.setW (i := 1) (by omega) (by omega) 0, hR6.kHd hK6 _ _⟩
  rw [← HCH.out]
  simp

end Go.Proofs.Ybulkcqic
