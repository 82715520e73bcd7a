/-
  giveBack.
-/
import Derived.Test.YbulkcqicFree
namespace Go.Proofs.Ybulkcqic
open Go.RowKit

/-- The first k pages of block n out of the free list. -/
def unlinkN (S : St) (n : Nat) : Nat → St
  | 0 => S
  | k + 1 => unlinkS (unlinkN S n k) 179 (n * 8 + k)
theorem unlinkS_nb (S : St) (i p : Nat) : (unlinkS S i p).nb = S.nb ∧ (unlinkS S i p).live = S.live := by
  unfold unlinkS unlink2 unlink1
  simp only [setP]
  split <;> split <;> exact ⟨rfl, rfl⟩
theorem unlinkN_nb (S : St) (n k : Nat) : (unlinkN S n k).nb = S.nb ∧ (unlinkN S n k).live = S.live := by
  induction k with
  | zero => exact ⟨rfl, rfl⟩
  | succ k ih => exact ⟨(unlinkS_nb _ _ _).1.trans ih.1, (unlinkS_nb _ _ _).2.trans ih.2⟩
/-- giveBack. -/
def giveS (S : St) (n : Nat) : St :=
  let S2 := unlinkN S n 8
  let S3 := setH (setH S2 180 (wrap64 (S2.w 180 - 8))) 181 (wrap64 (S2.w 181 - 1))
  { S3 with live := upd S3.live n false }

def cutA (A : Ad) (gb ga cap : Nat) : Ad := { A with vb := gb, ab := ga, cap := cap, tag := fun k => if k = gb then 1 else if k = ga then 2 else A.tag k }

/-- Behind the copy of the list, block n struck. -/
structure Cut2 (w0 : World) (A : Ad) (S : St) (n gb ga cap : Nat) (wx : World) : Prop where
  low : Below w0.heap.size w0 wx
  geb : w0.heap.size ≤ gb
  gea : w0.heap.size ≤ ga
  ne : ga ≠ gb
  box : wx.heap[gb]? = some (.cells #[.slice (some ⟨ga, 0, none⟩) S.nb cap] 57 (0, 0))
  ptr : ∀ i, i < S.nb → Has wx ⟨ga, i, none⟩ (if i = n then .pointer none else ptrV A S i)
  cap : S.nb ≤ cap ∧ cap ≤ maxLen

theorem cutR {U : Nat → Prop} {A : Ad} {S : St} {w wx : World} {n gb ga cap : Nat} (h : R U A S w) (hn : n < S.nb) (hV : Cut2 w A S n gb ga cap wx) :
    R U (cutA A gb ga cap) { S with live := upd S.live n false } (wx.setCell ⟨A.sb, 0, none⟩ (.pointer (some ⟨gb, 0, none⟩))) ∧ Keep U w (wx.setCell ⟨A.sb, 0, none⟩ (.pointer (some ⟨gb, 0, none⟩))) := by
  have hsb := (h.slab 0 (by omega)).lt
  have hlo : ∀ k, k < w.heap.size → wx.heap[k]? = w.heap[k]? := hV.low.block
  have ksz := hV.low.size
  have hgeb := hV.geb
  have hgea := hV.gea
  have tlow : ∀ k, k < w.heap.size → (cutA A gb ga cap).tag k = A.tag k := fun k hk => by
    show (if k = gb then _ else if k = ga then _ else A.tag k) = _
    rw [if_neg (by omega), if_neg (by omega)]
  have oh : ∀ {a : Addr} {v : Value}, Has w a v → a.block ≠ A.sb → Has (wx.setCell ⟨A.sb, 0, none⟩ (.pointer (some ⟨gb, 0, none⟩))) a v := fun {a v} ha hne =>
    (ha.of_block (hlo _ ha.lt)).set_other _ (ne_block (fun e => hne e.symm))
  have nh : ∀ {a : Addr} {v : Value}, Has wx a v → a.block ≠ A.sb → Has (wx.setCell ⟨A.sb, 0, none⟩ (.pointer (some ⟨gb, 0, none⟩))) a v := fun {a v} ha hne =>
    ha.set_other _ (ne_block (fun e => hne e.symm))
  have lv : ∀ i, upd S.live n false i = true → S.live i = true := fun i hi => by
    by_cases e : i = n
    · subst e; simp [upd] at hi
    · simpa [upd, e] using hi
  refine ⟨?_, ?_⟩
  · refine
      { ub := fun k hk => by have := h.ub k hk; simp [World.setCell]; omega
        slab := fun i hi => ?_, vec := ?_, ptr := fun i hi => ?_, blk := fun i hi hl j hj => ?_, dat := fun i hi hl o ho => ?_
        tS := (tlow _ hsb).trans h.tS, tV := ?_, tA := fun _ => ?_, tB := fun i hi hl => ?_, tD := fun i hi hl => ?_
        nS := h.nS, nV := fun hk => ?_, nA := fun _ hk => ?_, nB := fun i hi hl => h.nB i hi (lv i hl), nD := fun i hi hl => h.nD i hi (lv i hl), capn := hV.cap }
    · by_cases e0 : i = 0
      · subst e0
        exact Has.set_same ((h.slab 0 hi).of_block (hlo _ hsb)) _
      · have h1 := ((h.slab i hi).of_block (hlo _ hsb)).set_other (a := ⟨A.sb, 0, none⟩) (.pointer (some ⟨gb, 0, none⟩)) (fun e2 => e0 (by simpa using (congrArg Addr.off e2).symm))
        rw [slabV, if_neg e0] at h1 ⊢
        exact h1
    · show (wx.setCell ⟨A.sb, 0, none⟩ _).heap[gb]? = _
      rw [heap_setCell_other _ _ _ _ (by show gb ≠ A.sb; intro e; have : A.sb < w.heap.size := hsb; omega), hV.box]
      rw [vecV, if_neg (by show ¬ S.nb = 0; omega)]
      rfl
    · have h2 := nh (hV.ptr i hi) (by show ga ≠ A.sb; intro e; have : A.sb < w.heap.size := hsb; omega)
      by_cases e : i = n
      · subst e
        rw [if_pos rfl] at h2
        have e2 : ptrV (cutA A gb ga cap) { S with live := upd S.live i false } i = .pointer none := by
          unfold ptrV
          simp [upd]
        rw [e2]
        exact h2
      · rw [if_neg e] at h2
        have e2 : ptrV (cutA A gb ga cap) { S with live := upd S.live n false } i = ptrV A S i := by
          unfold ptrV
          simp [upd, e, cutA]
        rw [e2]
        exact h2
    · exact oh (h.blk i hi (lv i hl) j hj) (by show A.bb i ≠ A.sb; intro e; have := h.tS; rw [← e, h.tB i hi (lv i hl)] at this; omega)
    · exact oh (h.dat i hi (lv i hl) o ho) (by show A.db i ≠ A.sb; intro e; have := h.tS; rw [← e, h.tD i hi (lv i hl)] at this; omega)
    · show (if gb = gb then 1 else _) = 1
      rw [if_pos rfl]
    · show (if ga = gb then 1 else if ga = ga then 2 else _) = 2
      rw [if_neg hV.ne, if_pos rfl]
    · exact (tlow _ (h.blk i hi (lv i hl) 0 (by omega)).lt).trans (h.tB i hi (lv i hl))
    · exact (tlow _ (h.dat i hi (lv i hl) 0 (by unfold K; omega)).lt).trans (h.tD i hi (lv i hl))
    · have h1 : gb < w.heap.size := h.ub gb hk
      omega
    · have h1 : ga < w.heap.size := h.ub ga hk
      omega
  · exact Keep.set ⟨hV.low.os, hV.low.tape, hV.low.output, hV.low.size, fun k hk => hlo k (h.ub k hk)⟩ (a := ⟨A.sb, 0, none⟩) h.nS _

set_option maxHeartbeats 1000000 in
theorem give_any {U : Nat → Prop} {A : Ad} {S : St} {w : World} (h : R U A S w) (n : Nat) (hn : n < S.nb) (hl : S.live n = true) (hnb : S.nb ≤ 1000)
    (hlk : ∀ k, k < 8 → Lk (unlinkN S n k) (getP (unlinkN S n k) (n * 8 + k) 4) ∧ Lk (unlinkN S n k) (getP (unlink1 (unlinkN S n k) 179 (n * 8 + k)) (n * 8 + k) 5)) :
    Calls Yba.prog 27 #[.pointer (some ⟨A.sb, 0, none⟩), .int .i64 (n : Int)] w fun e w' => e = .returned (.tuple #[]) ∧ ∃ A', A'.sb = A.sb ∧ R U A' (giveS S n) w' ∧ Keep U w w' := by
  have HLV : Hid (∀ k q, q < 8 → Live (unlinkN S n k) (n * 8 + q)) := fun k q hq => by
    unfold Live
    rw [(unlinkN_nb _ _ _).1, (unlinkN_nb _ _ _).2]
    have e : (n * 8 + q) / 8 = n := by omega
    rw [e]
    exact ⟨hn, hl⟩
  have HLK : Hid (∀ k, k < 8 → Lk (unlinkN S n k) (getP (unlinkN S n k) (n * 8 + k) 4) ∧ Lk (unlinkN S n k) (getP (unlink1 (unlinkN S n k) 179 (n * 8 + k)) (n * 8 + k) 5)) := hlk
  have hn9 : n < 1000 := by omega
  have HN : Hid (n < S.nb ∧ S.live n = true ∧ S.nb ≤ 1000) := ⟨hn, hl, hnb⟩
  clear hlk hn hl hnb
  go_enter Yba.func27, Yba.ntmps27
  go_upto_block 0 with fail
  go_cut [4] from 6 to 19 (fun _ wx => R U A (unlinkN S n 8) wx ∧ Keep U w wx)
  case first =>
    go_wp2_with fail
    go_loopg [4, 6] 8 (fun g _ i wr => ∃ k : Nat, k + g = 8 ∧ i = .int .i64 (k : Int) ∧ R U A (unlinkN S n k) wr ∧ Keep U w wr)
    case atStart => exact ⟨0, by omega, rfl, h, Keep.refl _ _⟩
    case round =>
      obtain ⟨k, hk, rfl, hRk, hKk⟩ := hrel
      have HK : Hid (k + gk = 8) := hk
      by_cases hlt : k < 8
      · have tk : decide ((k : Int) < 8) = true := by simp; omega
        clear hk
        go_wp2_with fail
        have e : ((n : Int) * 8 + (k : Int)) = ((n * 8 + k : Nat) : Int) := by omega
        rw [e]
        clear e
        refine (unlink_any hRk 179 (n * 8 + k) (HLV.out k _ (by omega)) (by omega) (by omega) (by omega) (HLK.out k hlt).1 (HLK.out k hlt).2).mono ?_
        rintro e w7 ⟨rfl, hR7, hK7⟩
        go_wp2
        go_roundg (gk - 1)
        case measure => have := HK.out; omega
        case rel => exact ⟨k + 1, by have := HK.out; omega, by go_num, hR7, hKk.trans hK7⟩
      · have tk : decide ((k : Int) < 8) = false := by simp; omega
        obtain rfl : k = 8 := by omega
        go_wp2
        go_meet
        case rel => exact ⟨hRk, hKk⟩
  case rest =>
  obtain ⟨hR2, hK2⟩ := hcut
  have hnb2 : (unlinkN S n 8).nb = S.nb := (unlinkN_nb _ _ _).1
  clear HLK HLV h
  obtain ⟨w2, e2⟩ : ∃ x, x = wc := ⟨_, rfl⟩
  subst e2
  obtain ⟨S2, HS2⟩ : ∃ X, Hid (X = unlinkN S n 8) := ⟨_, rfl⟩
  rw [← HS2.out] at hR2 hnb2
  obtain ⟨l1, m1⟩ := hR2.lw (i := 180) (by omega) (by omega)
  obtain ⟨l2, m2⟩ := hR2.lw (i := 181) (by omega) (by omega)
  go_upto_region 5 with fail
  go_cut [20] from 21 to 26 (fun _ wx => R U A (setH S2 180 (wrap64 (S2.w 180 - 8))) wx ∧ Keep U w wx)
  case first =>
    go_wp2
    go_meet
    case rel => exact ⟨hR2.setLw (by omega) (by omega) _, hR2.kHd hK2 _ _⟩
  case rest =>
  obtain ⟨hR3, hK3⟩ := hcut
  obtain ⟨w3, e3⟩ : ∃ x, x = wc := ⟨_, rfl⟩
  subst e3
  clear l1 m1 l2 m2 hR2 hK2
  obtain ⟨l2, m2⟩ := hR3.lw (i := 181) (by omega) (by omega)
  have e181 : (setH S2 180 (wrap64 (S2.w 180 - 8))).w 181 = S2.w 181 := by simp [setH, upd]
  rw [e181] at l2
  go_upto_region 6 with fail
  go_cut [27] from 28 to 33 (fun _ wx => R U A (setH (setH S2 180 (wrap64 (S2.w 180 - 8))) 181 (wrap64 (S2.w 181 - 1))) wx ∧ Keep U w wx)
  case first =>
    go_wp2
    go_meet
    case rel => exact ⟨hR3.setLw (by omega) (by omega) _, hR3.kHd hK3 _ _⟩
  case rest =>
  obtain ⟨hR4, hK4⟩ := hcut
  obtain ⟨w4, e4⟩ : ∃ x, x = wc := ⟨_, rfl⟩
  subst e4
  clear l2 m2 hR3 hK3 e181
  obtain ⟨S4, HS4⟩ : ∃ X, Hid (X = setH (setH S2 180 (wrap64 (S2.w 180 - 8))) 181 (wrap64 (S2.w 181 - 1))) := ⟨_, rfl⟩
  rw [← HS4.out] at hR4
  have hnb4 : S4.nb = S.nb := by rw [HS4.out]; exact hnb2
  have hv := hR4.vec
  have hn0 := HN.out.1
  rw [vecV, if_neg (by omega)] at hv
  have h0 : w4.cell? ⟨A.sb, 0, none⟩ = some (.pointer (some ⟨A.vb, 0, none⟩)) := (hR4.slab 0 (by omega)).1
  have h0f : w4.frozen? ⟨A.sb, 0, none⟩ = false := (hR4.slab 0 (by omega)).2
  obtain ⟨nb, Hnb⟩ : ∃ x, Hid (x = S4.nb) := ⟨_, rfl⟩
  rw [← Hnb.out] at hv
  have h1 : w4.cell? ⟨A.vb, 0, none⟩ = some (.slice (some ⟨A.ab, 0, none⟩) nb A.cap) := by simp [World.cell?, hv]
  have hnb9 : nb ≤ 1000 := by rw [Hnb.out, hnb4]; exact HN.out.2.2
  have hnn : n < nb := by rw [Hnb.out, hnb4]; exact hn0
  have HN4 : Hid (S4.nb = S.nb) := hnb4
  clear hnb4 hnb2 hn0
  obtain ⟨i0, hi0, hz0, hz1, hz2⟩ := info_parts Yba.info67
  have hnews : ∀ j u, (ptrs A S4)[j]? = some u → w4.cell? ((⟨A.ab, 0, none⟩ : Addr).add j) = some u := fun j u hu => by
    have hj : j < S4.nb := by rw [← ptrs_len A S4]; exact (List.getElem?_eq_some_iff.1 hu).1
    have e1 : u = ptrV A S4 j := by simpa [ptrs, hj] using hu.symm
    rw [Addr.add_lit, Nat.zero_add, e1]
    exact (hR4.ptr j hj).1
  have hlen : (ptrs A S4).length = nb * 1 := by rw [ptrs_len, ← Hnb.out]; omega
  have hone := ptrs_one A S4
  go_wp2_with fail
  refine (load_any A.sb A.vb _ w4 h0 hv).mono ?_
  rintro e w5 ⟨rfl, rfl⟩
  go_upto_region 8 with (at_builtin; refine wpList_append_own _ rfl _ _ 57 rfl w5.heap.size 67 i0 (.pointer none) 1 8 Yba.underlying57 hi0 hz0 hz1 hz2 rfl (by decide) _ 0 [] rfl (World.ownsRow_nil _ _ _ _) ⟨A.ab, 0, none⟩ nb A.cap (ptrs A S4) rfl hlen hnews hone (by unfold maxLen; omega) (by omega) (Nat.le_refl _) ?_; intro v6 w6 hown6 hgrow6 _; obtain ⟨a6, c6, rfl⟩ := slice_of_own hown6)
  obtain ⟨g6, e6⟩ : ∃ g6, a6 = some ⟨g6, 0, none⟩ := by
    rcases hown6.2 with ⟨_, e⟩ | ⟨g', cap, cur, e, _⟩
    · omega
    · exact ⟨g', by simpa using (Value.slice.inj e).1⟩
  subst e6
  have hown6' : w6.ownsRow w5.heap.size 67 1 (.slice (some ⟨g6, 0, none⟩) nb c6) nb (ptrs A S4) := by simpa using hown6
  have hsz6 := hgrow6.size
  have hg6 := hown6'.lt g6 rfl
  have hpn : (ptrs A S4)[n]? = some (ptrV A S4 n) := by
    have : n < S4.nb := by rw [← Hnb.out]; exact hnn
    simp [ptrs, this]
  obtain ⟨p6, f6⟩ := (has_of_own hown6' n hnn _ hpn).alloc (.cells #[.slice (some ⟨g6, 0, none⟩) nb c6] 57)
  have hbx : (w6.alloc (.cells #[.slice (some ⟨g6, 0, none⟩) nb c6] 57)).heap[w6.heap.size]? = some (.cells #[.slice (some ⟨g6, 0, none⟩) nb c6] 57 (0, 0)) := heap_alloc_new w6 _
  have bc : (w6.alloc (.cells #[.slice (some ⟨g6, 0, none⟩) nb c6] 57)).cell? ⟨w6.heap.size, 0, none⟩ = some (.slice (some ⟨g6, 0, none⟩) nb c6) := by simp only [World.cell?, hbx]; simp
  have j0 : (0 : Int) ≤ (n : Int) := by omega
  have j1 : (n : Int) < (nb : Int) := by omega
  have hlo7 : Below w5.heap.size w5 (w6.alloc (.cells #[.slice (some ⟨g6, 0, none⟩) nb c6] 57)) := ((Below.refl _ _).grown hgrow6 (Nat.le_refl _) (fun k hk => by cases hk)).alloc hsz6 _
  have hpi : ∀ i, i < S4.nb → Has (w6.alloc (.cells #[.slice (some ⟨g6, 0, none⟩) nb c6] 57)) ⟨g6, i, none⟩ (ptrV A S4 i) := fun i hi => (has_of_own hown6' i (by rw [Hnb.out]; exact hi) _ (by simp [ptrs, hi])).alloc _
  obtain ⟨w7, e7⟩ : ∃ x, x = w6.alloc (.cells #[.slice (some ⟨g6, 0, none⟩) nb c6] 57) := ⟨_, rfl⟩
  rw [← e7] at p6 f6 hbx bc hlo7 hpi ⊢
  clear e7
  have hcap6 : nb ≤ c6 ∧ c6 ≤ maxLen := by
    rcases hown6'.2 with ⟨e1, _⟩ | ⟨g', cap, cur, e1, _, hh, h1, h2, _⟩
    · cases e1
    · have e2 : c6 = cap := by simpa using congrArg (fun v => match v with | Value.slice _ _ c => c | _ => 0) e1
      rw [e2]; exact ⟨h1, h2⟩
  have hC : Cut2 w5 A S4 n w6.heap.size g6 c6 (w7.setCell ⟨g6, n, none⟩ (.pointer none)) := by
    refine ⟨hlo7.setCell (p := ⟨g6, n, none⟩) hg6.1 _, hsz6, hg6.1, by omega, ?_, fun i hi => ?_, by rw [← Hnb.out]; exact hcap6⟩
    · rw [heap_setCell_other _ _ _ _ (by show w6.heap.size ≠ g6; omega), ← Hnb.out]
      exact hbx
    · by_cases hin : i = n
      · subst hin
        rw [if_pos rfl]
        exact Has.set_same ⟨p6, f6⟩ _
      · rw [if_neg hin]
        exact Has.set_other (hpi i hi) _ (fun e => hin (by simpa using (congrArg Addr.off e).symm))
  obtain ⟨hR9, hK9⟩ := cutR hR4 (by rw [← Hnb.out]; exact hnn) hC
  have s0 := (hC.low.cell (World.block_lt_of_cell? w5 _ h0)).trans h0
  have s1 := (hC.low.frozen (World.block_lt_of_cell? w5 _ h0)).trans h0f
  have s2 : (w7.setCell ⟨g6, n, none⟩ (.pointer none)).cell? ⟨w6.heap.size, 0, none⟩ = some (.slice (some ⟨g6, 0, none⟩) nb c6) := by
    rw [World.cell?_setCell_other _ _ _ _ (ne_block (by show g6 ≠ w6.heap.size; omega))]
    exact bc
  have HR9 : Hid (R U (cutA A w6.heap.size g6 c6) { S4 with live := upd S4.live n false } ((w7.setCell ⟨g6, n, none⟩ (.pointer none)).setCell ⟨A.sb, 0, none⟩ (.pointer (some ⟨w6.heap.size, 0, none⟩))) ∧ Keep U w5 ((w7.setCell ⟨g6, n, none⟩ (.pointer none)).setCell ⟨A.sb, 0, none⟩ (.pointer (some ⟨w6.heap.size, 0, none⟩)))) := ⟨hR9, hK9⟩
  clear hR9 hK9 hC hown6 hown6' hgrow6 hnews hone hlen hR4 h0 h0f h1 hv hi0 hz0 hz1 hz2 hcap6 hbx hpn
  go_wp2_with fail
  refine (store_any A.sb _ ⟨w6.heap.size, 0, none⟩ _ _ s0 s1 s2).mono ?_
  rintro e w8 ⟨rfl, rfl⟩
  go_wp2
  go_end0
  refine ⟨rfl, cutA A w6.heap.size g6 c6, rfl, ?_, hK4.trans HR9.out.2⟩
  have e9 : giveS S n = { S4 with live := upd S4.live n false } := by unfold giveS; rw [HS4.out, HS2.out]
  rw [e9]
  exact HR9.out.1

end Go.Proofs.Ybulkcqic
