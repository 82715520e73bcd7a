/-
  held; bytes.
-/
import Derived.Test.YbulkcqicRelease
import Derived.Deep.MidRow
namespace Go.Proofs.Ybulkcqic
open Go.RowKit Go.MuLone

/-- How many of the first n sizes hold pages. -/
def cnt (S : St) : Nat → Nat
  | 0 => 0
  | k + 1 => cnt S k + if 0 < S.w (91 + k) then 1 else 0
theorem cnt_le (S : St) (n : Nat) : cnt S n ≤ n := by
  induction n with
  | zero => exact Nat.le_refl _
  | succ k ih =>
    unfold cnt
    split <;> omega
def row (S : St) : List Value := (List.range 88).map fun i => .int .i32 (S.w (91 + i))
theorem row_len (S : St) : (row S).length = 88 := by simp [row]
theorem row_get (S : St) (k : Nat) (hk : k < 88) : (row S)[k]? = some (.int .i32 (S.w (91 + k))) := by simp [row, hk]

theorem index_run (cs : List Value) (hl : cs.length = 88) (k : Nat) (x : Value) (hx : cs[k]? = some x) : ∀ w : World, (Instr.index 43 (.agg cs.toArray) (.int .i64 (k : Int))).run Yba.prog w = .ok x w := by
  intro w
  have hk : k < 88 := by rw [← hl]; exact (List.getElem?_eq_some_iff.1 hx).1
  have e := (List.getElem?_eq_some_iff.1 hx).2
  simp [Instr.index, run_underlying Yba.underlying43, asIntOf, hk, part, isAgg, run_underlying Yba.underlying21, hx]

theorem Yba.size43 : (Yba.prog.info? 43).map (·.size) = some 88 := by kernel_rfl

theorem held_any {U : Nat → Prop} {A : Ad} {S0 : St} {w : World} (h : R U A S0 w) (hm : S0.w 1 = 0) :
    Calls Yba.prog 8 #[.pointer (some ⟨A.sb, 0, none⟩)] w fun e w' =>
      e = .returned (.tuple #[.int .i64 (wrap64 (S0.w 181 * 131072)), .int .i64 ((cnt S0 88 : Nat) : Int)]) ∧ R U A (setH (setH S0 1 1) 1 0) w' ∧ Keep U w w' := by
  obtain ⟨mu, muf⟩ := h.slab 1 (by omega)
  have mu' : w.cell? ⟨A.sb, 1, none⟩ = some (.int .i32 0) := by rw [mu, slabV, if_neg (by omega), hm]; rfl
  have hR1 : R U A (setH S0 1 1) (w.setCell ⟨A.sb, 1, none⟩ (.int .i32 1)) := h.setW (i := 1) (by omega) (by omega) 1
  have hK1 : Keep U w (w.setCell ⟨A.sb, 1, none⟩ (.int .i32 1)) := h.kHd (Keep.refl _ _) _ _
  obtain ⟨w1, e1⟩ : ∃ x, x = w.setCell ⟨A.sb, 1, none⟩ (.int .i32 1) := ⟨_, rfl⟩
  rw [← e1] at hR1 hK1
  have HE1 : Hid (w1 = w.setCell ⟨A.sb, 1, none⟩ (.int .i32 1)) := e1
  clear e1
  obtain ⟨cs, HCS⟩ : ∃ x, Hid (x = row S0) := ⟨_, rfl⟩
  have hlen : cs.length = 88 := by rw [HCS.out]; exact row_len _
  have hrg : w1.rangeAt A.sb 91 cs := fun j v hv => by
    have hj : j < 88 := by rw [← hlen]; exact (List.getElem?_eq_some_iff.1 hv).1
    rw [HCS.out, row_get _ _ hj] at hv
    obtain rfl := Option.some.inj hv
    have := (hR1.hd (i := 91 + j) (by omega) (by omega)).1
    have e : (setH S0 1 1).w (91 + j) = S0.w (91 + j) := by
      show (if 91 + j = 1 then _ else _) = _
      rw [if_neg (by omega)]
    rwa [e] at this
  have HRG : Hid (w1.rangeAt A.sb 91 cs) := hrg
  have HSZ : Hid ((Yba.prog.info? 43).map (·.size) = some cs.length) := by
    show (Yba.prog.info? 43).map (·.size) = some cs.length
    rw [Yba.size43, hlen]
  obtain ⟨l1, m1⟩ := hR1.lw (i := 181) (by omega) (by omega)
  obtain ⟨X, hX, HX⟩ : ∃ X : Int, (setH S0 1 1).w 181 = X ∧ Hid (X = S0.w 181) := ⟨_, rfl, rfl⟩
  rw [hX] at l1
  clear hrg hX
  go_enter_defers Yba.func8, Yba.ntmps8
  go_wp2_with fail
  refine (lock_free Yba.muLib ⟨A.sb, 1, none⟩ _ mu' muf).mono ?_
  rintro e w2 ⟨rfl, rfl⟩
  rw [← HE1.out]
  clear mu mu' muf h hm
  have hix := index_run cs hlen
  have HIX : Hid (∀ k : Nat, k < 88 → ∀ w : World, (Instr.index 43 (.agg cs.toArray) (.int .i64 (k : Int))).run Yba.prog w = .ok (.int .i32 (S0.w (91 + k))) w) := fun k hk => hix k _ (by rw [HCS.out]; exact row_get _ _ hk)
  clear hix
  go_upto_region 3 with fail
  go_cut [16, 17] from 13 to 15 (fun v i wx => v = .agg cs.toArray ∧ i = .int .i64 0 ∧ w1 = wx)
  case first =>
    go_wp2_with (refine wpList_load_mid rfl 43 _ rfl A.sb 91 rfl cs _ HRG.out Yba.underlying43 rfl HSZ.out ?_)
    go_meet
    case rel => exact ⟨rfl, rfl, rfl⟩
  case rest =>
  obtain ⟨rfl, rfl, rfl⟩ := hcut
  go_upto_block 0 with fail
  go_cut [3, 5] from 17 to 24 (fun n _ wx => n = .int .i64 ((cnt S0 88 : Nat) : Int) ∧ w1 = wx)
  case first =>
    go_wp2_with fail
    go_loopg [3, 5, 17] 88 (fun g n _ i wr => ∃ k : Nat, k + g = 88 ∧ n = .int .i64 ((cnt S0 k : Nat) : Int) ∧ i = .int .i64 (k : Int) ∧ w1 = wr)
    case atStart => exact ⟨0, by omega, rfl, rfl, rfl⟩
    case round =>
      obtain ⟨k, hk, rfl, rfl, rfl⟩ := hrel
      have HK : Hid (k + gk = 88) := hk
      by_cases hlt : k < 88
      · have tk : decide ((k : Int) < 88) = true := by simp; omega
        have hcl := cnt_le S0 k
        have hix := HIX.out k hlt
        clear hk
        by_cases hpos : 0 < S0.w (91 + k)
        · have tp : decide (0 < S0.w (91 + k)) = true := by simpa using hpos
          have HC : Hid (cnt S0 (k + 1) = cnt S0 k + 1) := by
            show cnt S0 (k + 1) = _
            rw [cnt, if_pos hpos]
          clear hpos
          go_wp2
          go_roundg (gk - 1)
          case measure => have := HK.out; omega
          case rel => exact ⟨k + 1, by have := HK.out; omega, by rw [HC.out]; go_num, by go_num, rfl⟩
        · have tp : decide (0 < S0.w (91 + k)) = false := by simpa using hpos
          have HC : Hid (cnt S0 (k + 1) = cnt S0 k) := by
            show cnt S0 (k + 1) = _
            rw [cnt, if_neg hpos]
            rfl
          clear hpos
          go_wp2
          go_roundg (gk - 1)
          case measure => have := HK.out; omega
          case rel => exact ⟨k + 1, by have := HK.out; omega, by rw [HC.out], by go_num, rfl⟩
      · have tk : decide ((k : Int) < 88) = false := by simp; omega
        obtain rfl : k = 88 := by omega
        go_wp2
        go_meet
        case rel => exact ⟨rfl, rfl⟩
  case rest =>
  obtain ⟨rfl, rfl⟩ := hcut
  obtain ⟨mu, muf⟩ := hR1.slab 1 (by omega)
  have mu' : w1.cell? ⟨A.sb, 1, none⟩ = some (.int .i32 1) := mu
  have muf' : w1.frozen? ⟨A.sb, 1, none⟩ = false := muf
  have hR3 := hR1.setW (i := 1) (by omega) (by omega) 0
  have hK3 := hR1.kHd hK1 1 (.int (wk 1) 0)
  clear mu muf
  go_wp2
  refine leaves_cons (f := 12) (args := #[.pointer (some ⟨A.sb, 1, none⟩)]) (by simp) (by simp [go_sem]) ?_
  refine (unlock_deferred Yba.muLib ⟨A.sb, 1, none⟩ .returning _ mu' muf').mono ?_
  rintro e u' w'' ⟨rfl, rfl, rfl⟩
  refine ⟨_, results_tmp2 rfl _ _ _, ?_, hR3, hK3⟩
  rw [HX.out]
  rfl

theorem slice3_run (db at0 sz : Nat) (hs : 0 < sz) (h : at0 + sz ≤ K) : ∀ w : World, (Instr.slice 49 (.slice (some ⟨db, 0, none⟩) K K) (some (.int .i64 (at0 : Int))) (some (.int .i64 ((at0 : Int) + (sz : Int)))) (some (.int .i64 ((at0 : Int) + (sz : Int))))).run Yba.prog w = .ok (.slice (some ⟨db, at0, none⟩) sz sz) w := by
  intro w
  have hk : K ≤ 131072 := Nat.le_refl _
  have t0 : (0 : Int) ≤ at0 := by omega
  have t1 : (at0 : Int) ≤ (at0 : Int) + (sz : Int) := by omega
  have t2 : (at0 : Int) + (sz : Int) ≤ (K : Int) := by omega
  generalize K = k at *
  go_simp
  exact ⟨fun e => by omega, by omega⟩

/-- bytes. -/
theorem bytes_any {U : Nat → Prop} {A : Ad} {S : St} {w : World} (h : R U A S w) (p ch sz pl : Nat) (hp : Live S p) (hb : p < 1000000) (h0z : 0 < sz) (hz : ch * sz + sz ≤ 16384) (hpl : pl = p * 16384 + ch * sz) :
    Calls Yba.prog 9 #[.pointer (some ⟨A.sb, 0, none⟩), .int .u64 (pl : Int), .int .i64 (sz : Int)] w fun e w' => e = .returned (.slice (some ⟨A.db (p / 8), atC p ch sz, none⟩) sz sz) ∧ w' = w := by
  have h0 : w.cell? ⟨A.sb, 0, none⟩ = some (.pointer (some ⟨A.vb, 0, none⟩)) := (h.slab 0 (by omega)).1
  have hv := h.vec
  rw [vecV, if_neg (by have := hp.1; omega)] at hv
  have h1 : w.cell? ⟨A.vb, 0, none⟩ = some (.slice (some ⟨A.ab, 0, none⟩) S.nb A.cap) := by simp [World.cell?, hv]
  have h2 : w.cell? ⟨A.ab, p / 8, none⟩ = some (.pointer (some ⟨A.bb (p / 8), 0, none⟩)) := by
    have := (h.ptr (p / 8) hp.1).1
    rwa [ptrV, hp.2, if_pos rfl] at this
  have h3 : w.cell? ⟨A.bb (p / 8), 0, none⟩ = some (.slice (some ⟨A.db (p / 8), 0, none⟩) K K) := (h.blk (p / 8) hp.1 hp.2 0 (by omega)).1
  have hq := hp.1
  have e1 : pl / 131072 = p / 8 := by omega
  have e2 : pl % 131072 = atC p ch sz := by unfold atC; omega
  have hpb : pl < 20000000000 := by omega
  obtain ⟨o, HO⟩ : ∃ x, Hid (x = atC p ch sz) := ⟨_, rfl⟩
  obtain ⟨q, HQ⟩ : ∃ x, Hid (x = p / 8) := ⟨_, rfl⟩
  rw [← HQ.out] at h2 h3 e1 hq ⊢
  rw [← HO.out] at e2 ⊢
  have i0 : (0 : Int) ≤ (q : Int) := by omega
  have i1 : (q : Int) < (S.nb : Int) := by omega
  have e1' : (pl : Int) / 131072 = (q : Int) := by omega
  have e2' : (pl : Int) % 131072 = (o : Int) := by omega
  have hat : o + sz ≤ K := by rw [HO.out]; unfold atC K; omega
  have hsl := slice3_run (A.db q) o sz h0z hat
  have hat2 : o + sz ≤ 131072 := hat
  clear hz hpl hp e1 e2
  go_enter Yba.func9, Yba.ntmps9
  go_wp2_with fail
  refine (load_any A.sb A.vb _ w h0 hv).mono ?_
  rintro e w' ⟨rfl, rfl⟩
  go_upto_region 2 with fail
  go_cut [8] from 22 to 24 (fun v wx => v = .int .i64 (o : Int) ∧ w' = wx)
  case first =>
    go_wp2
    go_meet
    case rel => exact ⟨by simp, rfl⟩
  case rest =>
  obtain ⟨rfl, rfl⟩ := hcut
  go_wp2
  go_ret
  exact ⟨rfl, rfl⟩

end Go.Proofs.Ybulkcqic
