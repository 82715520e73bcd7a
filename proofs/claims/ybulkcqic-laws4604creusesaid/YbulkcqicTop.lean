/-
  The walk of LawS4604CReuse.
-/
import Derived.Test.YbulkcqicStep
namespace Go.Proofs.Ybulkcqic
open Go.RowKit

theorem Yba.info25 : (Yba.prog.info? 25).map (fun i => (i.zero, i.size, i.bytes)) = some (some (.int .u64 0), 1, 8) := by kernel_rfl

/-- The places. -/
def Row (pb n sz k : Nat) (w : World) : Prop := ∀ i, i < n → Has w ⟨pb, i, none⟩ (.int .u64 (((if i < k then i * sz else 0 : Nat)) : Int))
theorem Row.keep {U : Nat → Prop} {pb n sz k : Nat} {w w' : World} (h : Row pb n sz k w) (hU : U pb) (hK : Keep U w w') : Row pb n sz k w' := fun i hi => (h i hi).of_block (hK.blk _ hU)
theorem Row.set {pb n sz k : Nat} {w : World} (h : Row pb n sz k w) (hk : k < n) : Row pb n sz (k + 1) (w.setCell ⟨pb, k, none⟩ (.int .u64 ((k * sz : Nat) : Int))) := fun i hi => by
  by_cases e : i = k
  · subst e
    rw [if_pos (by omega)]
    exact (h i hi).set_same _
  · have := (h i hi).set_other (a := ⟨pb, k, none⟩) (.int .u64 ((k * sz : Nat) : Int)) (fun e2 => e (by simpa using (congrArg Addr.off e2).symm))
    have e3 : (if i < k + 1 then i * sz else 0) = if i < k then i * sz else 0 := by
      by_cases h1 : i < k
      · rw [if_pos h1, if_pos (by omega)]
      · rw [if_neg h1, if_neg (by omega)]
    rw [e3]
    exact this
/-- The caller writes his own. -/
theorem Stand.own {U : Nat → Prop} {sb : Nat} {Q : St → Prop} {w : World} (h : Stand U sb Q w) {a : Addr} (ha : U a.block) (v : Value) : Stand U sb Q (w.setCell a v) := by
  obtain ⟨A, S, h1, h2, h3, h4⟩ := h
  exact ⟨A, S, h1, h2.frame (by simp [World.setCell]) (fun k hk _ => Below.heap_setCell _ _ _ _ (fun e => hk (e ▸ ha))), h3, h4⟩
theorem Keep.own {V : Nat → Prop} {w w' : World} (h : Keep V w w') {a : Addr} (ha : ¬ V a.block) (v : Value) : Keep V w (w'.setCell a v) := h.set ha v
theorem Keep.less {U V : Nat → Prop} {w w' : World} (h : Keep U w w') (hUV : ∀ k, V k → U k) : Keep V w w' := ⟨h.os, h.tape, h.output, h.size, fun k hk => h.blk k (hUV k hk)⟩

theorem make24 (n : Nat) (hn : n ≤ 32) (w : World) : (Instr.makeSlice 24 (.int .i64 (n : Int)) (.int .i64 (n : Int))).run Yba.prog w = .ok (.slice (some ⟨w.heap.size, 0, none⟩) n n) (w.alloc (.cells (madeCells #[.int .u64 0] n) 25)) :=
  run_make_row' (P := Yba.prog) 24 25 (.int .u64 0) 8 Yba.underlying24 Yba.info25 rfl .i64 .i64 n (by omega) (by omega) w

theorem stand_first {U : Nat → Prop} {sb c sz : Nat} {w : World} (hc : c < 64) (hz : sz = 8 * (c + 1)) (h : Stand U sb (fun S => Fr S c) w) :
    Calls Yba.prog 6 #[.pointer (some ⟨sb, 0, none⟩), .int .i64 (sz : Int)] w fun e w' => e = .returned (.int .u64 0) ∧ Stand U sb (fun S' => One S' c sz 1 1 0) w' ∧ Keep U w w' := by
  obtain ⟨A, S, rfl, hR, hm, hQ⟩ := h
  exact alloc_new hR c sz hc hz hm hQ
theorem stand_next {U : Nat → Prop} {sb c sz k : Nat} {w : World} (hc : c < 64) (hz : sz = 8 * (c + 1)) (h : Stand U sb (fun S => One S c sz k k 0) w) (hk : k < 16384 / sz) :
    Calls Yba.prog 6 #[.pointer (some ⟨sb, 0, none⟩), .int .i64 (sz : Int)] w fun e w' => e = .returned (.int .u64 ((k * sz : Nat) : Int)) ∧ Stand U sb (fun S' => One S' c sz (k + 1) (k + 1) 0) w' ∧ Keep U w w' := by
  obtain ⟨A, S, rfl, hR, hm, hQ⟩ := h
  exact alloc_next hR c sz k k 0 hc hz hm ⟨hQ, hk, by omega, by omega, fun e => absurd rfl e, fun _ => rfl⟩
/-- The k-th alloc. -/
theorem stand_alloc {U : Nat → Prop} {sb c sz k : Nat} {w : World} (hc : c < 64) (hz : sz = 8 * (c + 1)) (h : Stand U sb (fun S => if k = 0 then Fr S c else One S c sz k k 0) w) (hk : k < 16384 / sz) :
    Calls Yba.prog 6 #[.pointer (some ⟨sb, 0, none⟩), .int .i64 (sz : Int)] w fun e w' => e = .returned (.int .u64 ((k * sz : Nat) : Int)) ∧ Stand U sb (fun S' => if k + 1 = 0 then Fr S' c else One S' c sz (k + 1) (k + 1) 0) w' ∧ Keep U w w' := by
  simp only [Nat.add_one_ne_zero, if_false]
  by_cases e : k = 0
  · subst e
    simp only [if_true] at h
    rw [Nat.zero_mul]
    exact stand_first hc hz h
  · simp only [e, if_false] at h
    exact stand_next hc hz h hk
def Back (c sz n j : Nat) (S : St) : Prop := if n = 1 then Zero S c else One S c sz (n - 1) n (j + 1) ∧ (0 = 0 → S.d 0 (j * sz) = 0 ∧ S.d 0 (j * sz + 1) = 0)
theorem stand_rel {U : Nat → Prop} {sb c sz n j : Nat} {w : World} (hc : c < 64) (hz : sz = 8 * (c + 1)) (h : Stand U sb (fun S => One S c sz n n 0) w) (hn0 : 0 < n) (hn : n ≤ 16384 / sz) (hj : j < n) :
    Calls Yba.prog 7 #[.pointer (some ⟨sb, 0, none⟩), .int .u64 ((j * sz : Nat) : Int), .int .i64 (sz : Int)] w fun e w' => e = .returned (.tuple #[]) ∧ Stand U sb (Back c sz n j) w' ∧ Keep U w w' := by
  obtain ⟨A, S, rfl, hR, hm, hQ⟩ := h
  exact release_one hR c sz n n 0 j hc hz hm hQ hn0 hn (by omega) (by omega)
theorem stand_back {U : Nat → Prop} {sb c sz n j : Nat} {w : World} (hc : c < 64) (hz : sz = 8 * (c + 1)) (h : Stand U sb (Back c sz n j) w) (hn0 : 0 < n) (hn : n ≤ 16384 / sz) (hj : j < n) :
    Calls Yba.prog 6 #[.pointer (some ⟨sb, 0, none⟩), .int .i64 (sz : Int)] w fun e w' => e = .returned (.int .u64 ((j * sz : Nat) : Int)) ∧ Stand U sb (fun S' => One S' c sz n n 0) w' ∧ Keep U w w' := by
  obtain ⟨A, S, rfl, hR, hm, hQ⟩ := h
  unfold Back at hQ
  by_cases e : n = 1
  · subst e
    obtain rfl : j = 0 := by omega
    rw [if_pos rfl] at hQ
    rw [Nat.zero_mul]
    exact alloc_zero hR c sz hc hz hm hQ
  · rw [if_neg e] at hQ
    have := alloc_next hR c sz (n - 1) n (j + 1) hc hz hm ⟨hQ.1, by omega, by omega, by omega, fun _ => hQ.2 rfl, fun h0 => absurd h0 (by omega)⟩
    simp only [Nat.add_one_ne_zero, if_false, Nat.add_sub_cancel, Nat.sub_add_cancel hn0] at this
    exact this
def Down (c sz n k : Nat) (S : St) : Prop := if k = n then Zero S c else One S c sz (n - k) n k
theorem stand_down {U : Nat → Prop} {sb c sz n k : Nat} {w : World} (hc : c < 64) (hz : sz = 8 * (c + 1)) (h : Stand U sb (Down c sz n k) w) (hn : n ≤ 16384 / sz) (hk : k < n) :
    Calls Yba.prog 7 #[.pointer (some ⟨sb, 0, none⟩), .int .u64 ((k * sz : Nat) : Int), .int .i64 (sz : Int)] w fun e w' => e = .returned (.tuple #[]) ∧ Stand U sb (Down c sz n (k + 1)) w' ∧ Keep U w w' := by
  obtain ⟨A, S, rfl, hR, hm, hQ⟩ := h
  unfold Down at hQ
  rw [if_neg (by omega)] at hQ
  refine (release_one hR c sz (n - k) n k k hc hz hm hQ (by omega) (by omega) (by omega) (by omega)).mono ?_
  rintro e w' ⟨rfl, ⟨A', S', h1, h2, h3, h4⟩, hK⟩
  refine ⟨rfl, ⟨A', S', h1, h2, h3, ?_⟩, hK⟩
  unfold Down
  by_cases e : k + 1 = n
  · rw [if_pos e]
    rw [if_pos (by omega)] at h4
    exact h4
  · rw [if_neg e]
    rw [if_neg (by omega)] at h4
    have e2 : n - k - 1 = n - (k + 1) := by omega
    rw [e2] at h4
    exact h4.1
theorem stand_held {U : Nat → Prop} {sb c : Nat} {w : World} (h : Stand U sb (fun S => Zero S c) w) :
    Calls Yba.prog 8 #[.pointer (some ⟨sb, 0, none⟩)] w fun e w' => e = .returned (.tuple #[.int .i64 131072, .int .i64 0]) ∧ Stand U sb (fun S => Zero S c) w' ∧ Keep U w w' := by
  obtain ⟨A, S, rfl, hR, hm, hQ⟩ := h
  refine (held_any hR hm).mono ?_
  rintro e w' ⟨rfl, hR2, hK⟩
  refine ⟨?_, ⟨A, _, rfl, hR2, setH_same _ _ _, (hQ.mu 1).mu 0⟩, hK⟩
  rw [hQ.hb, cnt_zero hQ 88 (by omega), w64 _ (by omega)]
  rfl
theorem Twin.trans {a b c : World} (h : Twin a b) (k : Twin b c) : Twin a c := ⟨h.1.trans k.1, h.2.1.trans k.2.1, h.2.2.1.trans k.2.2.1, h.2.2.2.trans k.2.2.2⟩
theorem Stand.twin {U : Nat → Prop} {sb : Nat} {Q : St → Prop} {w w' : World} (h : Stand U sb Q w) (ht : Twin w' w) : Stand U sb Q w' := by
  obtain ⟨A, S, h1, h2, h3, h4⟩ := h
  exact ⟨A, S, h1, h2.twin ht, h3, h4⟩
theorem Row.twin {pb n sz k : Nat} {w w' : World} (h : Row pb n sz k w) (ht : Twin w' w) : Row pb n sz k w' := fun i hi => (h i hi).of_block (by rw [ht.1])

set_option maxRecDepth 100000 in
set_option maxHeartbeats 2000000 in
theorem top_any (a0 a1 a2 : Nat) (w0 : a0 < 256) (w1 : a1 < 256) (w2 : a2 < 256) (w : World) :
    Calls Yba.prog 3 #[.int .u8 a0, .int .u8 a1, .int .u8 a2] w fun e w' => e = .returned (.bool true) ∧ Below w.heap.size w w' := by
  obtain ⟨c, HC⟩ : ∃ x, Hid (x = a0 % 64) := ⟨_, rfl⟩
  obtain ⟨sz, HZ⟩ : ∃ x, Hid (x = 8 * (c + 1)) := ⟨_, rfl⟩
  obtain ⟨n, HN⟩ : ∃ x, Hid (x = a1 % 32 + 1) := ⟨_, rfl⟩
  obtain ⟨j, HJ⟩ : ∃ x, Hid (x = a2 % n) := ⟨_, rfl⟩
  have hc : c < 64 := by rw [HC.out]; omega
  have hn0 : 0 < n := by rw [HN.out]; omega
  have hn1 : n ≤ 32 := by rw [HN.out]; omega
  have hj : j < n := by rw [HJ.out]; exact Nat.mod_lt _ hn0
  have hz0 : 8 ≤ sz := by rw [HZ.out]; omega
  have hz1 : sz ≤ 512 := by rw [HZ.out]; omega
  have hcap := cap_ge c sz hc HZ.out
  have HCAP : Hid (32 ≤ 16384 / sz ∧ 16384 / sz ≤ 2048 ∧ 16384 / sz * sz ≤ 16384) := hcap
  clear hcap
  go_enter Yba.func3, Yba.ntmps3
  go_upto_region 1 with fail
  go_cut [7] from 18 to 22 (fun v wx => v = .int .i64 (sz : Int) ∧ w = wx)
  case first =>
    go_wp2
    go_meet
    case rel => exact ⟨by rw [HZ.out, HC.out]; simp, rfl⟩
  case rest =>
  obtain ⟨rfl, rfl⟩ := hcut
  go_upto_region 2 with fail
  go_cut [8] from 23 to 26 (fun v wx => v = .int .i64 (n : Int) ∧ w = wx)
  case first =>
    go_wp2
    go_meet
    case rel => exact ⟨by rw [HN.out]; simp, rfl⟩
  case rest =>
  obtain ⟨rfl, rfl⟩ := hcut
  go_upto_region 3 with fail
  go_cut [9] from 27 to 30 (fun v wx => v = .int .i64 (j : Int) ∧ w = wx)
  case first =>
    go_wp2
    go_meet
    case rel => exact ⟨by rw [HJ.out]; simp, rfl⟩
  case rest =>
  obtain ⟨rfl, rfl⟩ := hcut
  go_wp2_with fail
  refine (new_any (fun k => k < w.heap.size) w (fun _ h => h)).mono ?_
  rintro e w3 ⟨rfl, hR3, hK3⟩
  obtain ⟨sb, HSB⟩ : ∃ x, Hid (x = w.heap.size) := ⟨_, rfl⟩
  rw [← HSB.out]
  have HS3 : Hid (Stand (fun k => k < w.heap.size) sb (fun S => Fr S c) w3) := ⟨_, _, HSB.out.symm, hR3, by rfl, Fr_new c hc⟩
  clear hR3
  have hmk := make24 n hn1
  go_upto_region 5 with fail
  go_cut [11] from 32 to 33 (fun v wx => v = .slice (some ⟨w3.heap.size, 0, none⟩) n n ∧ wx = w3.alloc (.cells (madeCells #[.int .u64 0] n) 25))
  case first =>
    go_wp2
    go_meet
    case rel => exact ⟨rfl, rfl⟩
  case rest =>
  obtain ⟨rfl, hwc⟩ := hcut
  obtain ⟨w4, e4⟩ : ∃ x, x = wc := ⟨_, rfl⟩
  subst e4
  obtain ⟨pb, HPB⟩ : ∃ x, Hid (x = w3.heap.size) := ⟨_, rfl⟩
  rw [← HPB.out]
  obtain ⟨V, HV⟩ : ∃ V : Nat → Prop, Hid (V = fun k => k < w.heap.size ∨ k = pb) := ⟨_, rfl⟩
  have HVp : Hid (V pb) := by
    show V pb
    rw [HV.out]
    exact .inr rfl
  have HS4 : Hid (Stand V sb (fun S => if 0 = 0 then Fr S c else One S c sz 0 0 0) w4) := by
    obtain ⟨A, S, h1, h2, h3, h4⟩ := HS3.out
    refine ⟨A, S, h1, ?_, h3, by simpa using h4⟩
    rw [hwc]
    refine (h2.alloc _).user (w0 := w3) (fun k hk => ?_) (fun k hk => ?_) h2
    · rw [HV.out] at hk
      rcases hk with hk | rfl
      · exact .inl hk
      · exact .inr (by rw [HPB.out]; exact Nat.le_refl _)
    · rw [HV.out] at hk
      have := hK3.size
      rcases hk with hk | rfl
      · simp
        omega
      · rw [HPB.out]
        simp
  have HR4 : Hid (Row pb n sz 0 w4) := fun i hi => by
    rw [if_neg (by omega), hwc, HPB.out]
    refine has_own w3 _ 25 i _ ?_
    rw [← Array.getElem?_toList, toList_madeCells_one, List.getElem?_replicate, if_pos hi]
    rfl
  have HK4 : Hid (Keep (fun k => k < w.heap.size) w w4) := by
    show Keep _ _ _
    rw [hwc]
    exact hK3.trans ((Keep.refl _ _).alloc (fun k hk => Nat.lt_of_lt_of_le hk hK3.size) _)
  have HVW : Hid (∀ k, k < w.heap.size → V k) := fun k hk => by
    rw [HV.out]
    exact .inl hk
  have HPW : Hid (¬ pb < w.heap.size) := by
    show ¬ pb < w.heap.size
    have := hK3.size
    rw [HPB.out]
    omega
  clear hwc hmk hK3 HS3 HSB HPB HV
  go_upto_block 0 with fail
  go_cut [12] from 35 to 44 (fun _ wx => Row pb n sz n wx ∧ Stand V sb (fun S => One S c sz n n 0) wx ∧ Keep (fun k => k < w.heap.size) w wx)
  case first =>
    go_wp2_with fail
    go_loopg [12, 35] n (fun g _ i wr => ∃ k : Nat, k + g = n ∧ i = .int .i64 (k : Int) ∧ Row pb n sz k wr ∧ Stand V sb (fun S => if k = 0 then Fr S c else One S c sz k k 0) wr ∧ Keep (fun k => k < w.heap.size) w wr)
    case atStart => exact ⟨0, by omega, rfl, HR4.out, HS4.out, HK4.out⟩
    case round =>
      obtain ⟨k, hk, rfl, hRk, hSk, hKk⟩ := hrel
      have HK : Hid (k + gk = n) := hk
      by_cases hlt : k < n
      · have tk : decide ((k : Int) < (n : Int)) = true := by simpa using hlt
        have j0 : (0 : Int) ≤ (k : Int) := by omega
        have j1 : (k : Int) < (n : Int) := by omega
        have hcall := stand_alloc hc HZ.out hSk (by have := HCAP.out; omega)
        clear hk
        go_wp2_with fail
        refine hcall.mono ?_
        rintro e w5 ⟨rfl, hS5, hK5⟩
        have hR5 := hRk.keep HVp.out hK5
        obtain ⟨x1, x2⟩ := hR5 k hlt
        have hK5' := hKk.trans (hK5.less HVW.out)
        have HKo : Hid (∀ v, Keep (fun k => k < w.heap.size) w (w5.setCell ⟨pb, k, none⟩ v)) := fun v => hK5'.own (a := ⟨pb, k, none⟩) HPW.out v
        clear hcall
        go_wp2
        go_roundg (gk - 1)
        case measure => have := HK.out; omega
        case rel => exact ⟨k + 1, by have := HK.out; omega, by go_num, hR5.set hlt, hS5.own HVp.out _, HKo.out _⟩
      · have tk : decide ((k : Int) < (n : Int)) = false := by simpa using hlt
        obtain rfl : k = n := by omega
        have hSk' : Stand V sb (fun S => One S c sz k k 0) wr := by
          obtain ⟨A, S, h1, h2, h3, h4⟩ := hSk
          refine ⟨A, S, h1, h2, h3, ?_⟩
          rw [if_neg (by omega)] at h4
          exact h4
        clear hSk
        go_wp2
        go_meet
        case rel => exact ⟨hRk, hSk', hKk⟩
  case rest =>
  obtain ⟨hR5, hS5, hK5⟩ := hcut
  obtain ⟨w5, e5⟩ : ∃ x, x = wc := ⟨_, rfl⟩
  subst e5
  clear HS4 HR4 HK4
  have HR5 : Hid (Row pb n sz n w5) := hR5
  have HS5 : Hid (Stand V sb (fun S => One S c sz n n 0) w5) := hS5
  have HK5 : Hid (Keep (fun k => k < w.heap.size) w w5) := hK5
  clear hR5 hS5 hK5
  go_upto_block 2 with fail
  go_cut [13, 14] from 45 to 65 (fun _ _ wx => Twin wx w5)
  case first =>
    go_wp2_with fail
    go_loopg [13, 14] n (fun g i _ wr => ∃ k : Nat, k + g = n ∧ i = .int .i64 (k : Int) ∧ Twin wr w5)
    case atStart => exact ⟨0, by omega, rfl, rfl, rfl, rfl, rfl⟩
    case round =>
      obtain ⟨k, hk, rfl, hTk⟩ := hrel
      have HK : Hid (k + gk = n) := hk
      by_cases hlt : k < n
      · have tk : decide ((k : Int) < (n : Int)) = true := by simpa using hlt
        clear hk
        obtain ⟨G, eG⟩ : ∃ x, x = gk := ⟨_, rfl⟩
        subst eG
        go_upto_block 4 with fail
        go_wp2_with fail
        go_loopg [14] (n - k) (fun g i wq => ∃ b : Nat, k < b ∧ b + g = n + 1 ∧ b ≤ n ∧ i = .int .i64 (b : Int) ∧ Twin wq w5)
        case atStart => exact ⟨k + 1, by omega, by omega, by omega, by go_num, hTk⟩
        case round =>
          obtain ⟨b, hb0, hb, hb1, rfl, hTq⟩ := hrel
          have HB : Hid (b + gk = n + 1) := hb
          clear hb
          by_cases hbl : b < n
          · have tb : decide ((b : Int) < (n : Int)) = true := by simpa using hbl
            have i0 : (0 : Int) ≤ (k : Int) := by omega
            have i1 : (k : Int) < (n : Int) := by omega
            have i2 : (0 : Int) ≤ (b : Int) := by omega
            have i3 : (b : Int) < (n : Int) := by omega
            have hRq := HR5.out.twin hTq
            have x1 := (hRq k hlt).1
            have x2 := (hRq b hbl).1
            rw [if_pos hlt] at x1
            rw [if_pos hbl] at x2
            have hne : (((k * sz : Nat) : Int) == ((b * sz : Nat) : Int)) = false := by
              have : k * sz < b * sz := Nat.mul_lt_mul_of_pos_right hb0 (by omega)
              simp only [beq_eq_false_iff_ne]
              omega
            go_upto_region 17 with fail
            go_cut [65] from 57 to 64 (fun v wx => v = .bool false ∧ Twin wx w5)
            case first =>
              go_wp2_with fail
              go_quiet (fail)
              go_wp2
              go_meet
              case rel =>
                have hne2 : (((k : Int) * (sz : Int)) == ((b : Int) * (sz : Int))) = false := by
                  rw [← Int.natCast_mul, ← Int.natCast_mul]
                  exact hne
                exact ⟨by rw [hne2], hTq⟩
            case rest =>
            obtain ⟨rfl, hT7⟩ := hcut
            clear hRq x1 x2
            go_wp2
            go_roundg (gk - 1)
            case measure => have := HB.out; omega
            case rel => exact ⟨b + 1, by omega, by have := HB.out; omega, by omega, by go_num, hT7⟩
          · have tb : decide ((b : Int) < (n : Int)) = false := by simpa using hbl
            go_wp2
            go_roundg (G - 1)
            case measure => have := HK.out; omega
            case rel => exact ⟨k + 1, by have := HK.out; omega, by go_num, hTq⟩
      · have tk : decide ((k : Int) < (n : Int)) = false := by simpa using hlt
        go_wp2
        go_meet
        case rel => exact hTk
  case rest =>
  have hT6 := hcut
  obtain ⟨w6, e6⟩ : ∃ x, x = wc := ⟨_, rfl⟩
  subst e6
  have hR6 := HR5.out.twin hT6
  have hS6 := HS5.out.twin hT6
  have hK6 := HK5.out.twin hT6
  have hnc : n ≤ 16384 / sz := by have := HCAP.out; omega
  have HNC : Hid (n ≤ 16384 / sz) := hnc
  have hcall := stand_rel hc HZ.out hS6 hn0 hnc hj
  have x1 := (hR6 j hj).1
  rw [if_pos hj] at x1
  have i0 : (0 : Int) ≤ (j : Int) := by omega
  have i1 : (j : Int) < (n : Int) := by omega
  clear HR5 HS5 HK5 hT6 hS6 hnc
  go_wp2_with fail
  refine hcall.mono ?_
  rintro e w7 ⟨rfl, hS7, hK7⟩
  have HR7 : Hid (Row pb n sz n w7) := hR6.keep HVp.out hK7
  have HK7 : Hid (Keep (fun k => k < w.heap.size) w w7) := hK6.trans (hK7.less HVW.out)
  clear hcall x1 hR6 hK6 hK7
  have HS7 : Hid (Stand V sb (Back c sz n j) w7) := hS7
  clear hS7
  have x2 := (HR7.out j hj).1
  rw [if_pos hj] at x2
  have hrefl : (((j * sz : Nat) : Int) != ((j * sz : Nat) : Int)) = false := by simp
  have HX : Hid (∀ X Y : World, Twin X w7 → Keep V X Y → Y.cell? ⟨pb, j, none⟩ = some (.int .u64 ((j * sz : Nat) : Int))) := fun X Y hX hY => by
    have := (((HR7.out.twin hX).keep HVp.out hY) j hj).1
    rwa [if_pos hj] at this
  have HF : Hid (∀ X Y : World, Twin X w7 → Keep V X Y → Row pb n sz n Y ∧ Keep (fun k => k < w.heap.size) w Y) := fun X Y hX hY =>
    ⟨(HR7.out.twin hX).keep HVp.out hY, (HK7.out.twin hX).trans (hY.less HVW.out)⟩
  go_upto_region 20 with fail
  go_cut [80] from 73 to 79 (fun v wx => v = .bool false ∧ Row pb n sz n wx ∧ Stand V sb (fun S => One S c sz n n 0) wx ∧ Keep (fun k => k < w.heap.size) w wx)
  case first =>
    go_region_with (go_at_call 6; refine (stand_back (U := V) (sb := sb) (n := n) (j := j) hc HZ.out ?_ hn0 HNC.out hj).mono ?_; exact HS7.out.twin ⟨rfl, rfl, rfl, rfl⟩; rintro e w8 ⟨rfl, hS8, hK8⟩; have x3 := HX.out _ _ (by exact ⟨rfl, rfl, rfl, rfl⟩) hK8)
    all_goals go_wp2
    all_goals go_meet
    all_goals exact ⟨by simp, (HF.out _ _ (by exact ⟨rfl, rfl, rfl, rfl⟩) hK8).1, hS8, (HF.out _ _ (by exact ⟨rfl, rfl, rfl, rfl⟩) hK8).2⟩
  case rest =>
  obtain ⟨rfl, hR8, hS8, hK8⟩ := hcut
  obtain ⟨w8, e8⟩ : ∃ x, x = wc := ⟨_, rfl⟩
  subst e8
  clear HR7 HS7 HK7 x2 HX HF hrefl
  have hD8 : Stand V sb (Down c sz n 0) w8 := by
    obtain ⟨A, S, h1, h2, h3, h4⟩ := hS8
    refine ⟨A, S, h1, h2, h3, ?_⟩
    unfold Down
    rw [if_neg (by omega)]
    exact h4
  clear hS8
  go_upto_block 6 with fail
  go_cut [15] from 82 to 92 (fun _ wx => Stand V sb (fun S => Zero S c) wx ∧ Keep (fun k => k < w.heap.size) w wx)
  case first =>
    go_wp2_with fail
    go_loopg [15, 82] n (fun g _ i wr => ∃ k : Nat, k + g = n ∧ i = .int .i64 (k : Int) ∧ Row pb n sz n wr ∧ Stand V sb (Down c sz n k) wr ∧ Keep (fun k => k < w.heap.size) w wr)
    case atStart => exact ⟨0, by omega, rfl, hR8, hD8, hK8⟩
    case round =>
      obtain ⟨k, hk, rfl, hRk, hSk, hKk⟩ := hrel
      have HK : Hid (k + gk = n) := hk
      by_cases hlt : k < n
      · have tk : decide ((k : Int) < (n : Int)) = true := by simpa using hlt
        have j0 : (0 : Int) ≤ (k : Int) := by omega
        have j1 : (k : Int) < (n : Int) := by omega
        have hcall := stand_down hc HZ.out hSk HNC.out hlt
        have x1 := (hRk k hlt).1
        rw [if_pos hlt] at x1
        clear hk
        go_wp2_with fail
        refine hcall.mono ?_
        rintro e w9 ⟨rfl, hS9, hK9⟩
        clear hcall
        go_wp2
        go_roundg (gk - 1)
        case measure => have := HK.out; omega
        case rel => exact ⟨k + 1, by have := HK.out; omega, by go_num, hRk.keep HVp.out hK9, hS9, hKk.trans (hK9.less HVW.out)⟩
      · have tk : decide ((k : Int) < (n : Int)) = false := by simpa using hlt
        obtain rfl : k = n := by omega
        have hSk' : Stand V sb (fun S => Zero S c) wr := by
          obtain ⟨A, S, h1, h2, h3, h4⟩ := hSk
          refine ⟨A, S, h1, h2, h3, ?_⟩
          unfold Down at h4
          rw [if_pos rfl] at h4
          exact h4
        clear hSk
        go_wp2
        go_meet
        case rel => exact ⟨hSk', hKk⟩
  case rest =>
  obtain ⟨hS9, hK9⟩ := hcut
  obtain ⟨w9, e9⟩ : ∃ x, x = wc := ⟨_, rfl⟩
  subst e9
  clear hR8 hD8 hK8
  go_wp2_with fail
  refine (stand_held hS9).mono ?_
  rintro e w10 ⟨rfl, ⟨A, S, rfl, hR, hm, hZ⟩, hK10⟩
  have x1 := (hR.lw (i := 180) (by omega) (by omega)).1
  have x2 := (hR.lw (i := 181) (by omega) (by omega)).1
  rw [hZ.fp] at x1
  rw [hZ.hb] at x2
  have hK := hK9.trans (hK10.less HVW.out)
  clear hR hZ hS9
  go_wp2
  go_ret
  exact ⟨rfl, hK.os, hK.tape, hK.output, hK.size, hK.blk⟩

end Go.Proofs.Ybulkcqic
