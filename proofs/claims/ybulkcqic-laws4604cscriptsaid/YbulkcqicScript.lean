/-
  The walk of LawS4604CScript.
-/
import Derived.Test.YbulkcqicShow
namespace Go.Proofs.Ybulkcqic
open Go.RowKit

theorem Yba.info25s : (Yba.prog.info? 25).map (fun i => (i.zero, i.size, i.bytes)) = some (some (.int .u64 0), 1, 8) := by kernel_rfl
theorem Yba.info3s : (Yba.prog.info? 3).map (fun i => (i.zero, i.size, i.bytes)) = some (some (.int .i64 0), 1, 8) := by kernel_rfl

def zb : List Value := List.replicate 65 (.bool false)
theorem Yba.zero54 : (Yba.prog.info? 54).map (fun i => (i.zero, i.size)) = some (some (.agg zb.toArray), 65) := by kernel_rfl
theorem zero54_run : ∀ w : World, (zeroValue 54).run Yba.prog w = .ok (.agg zb.toArray) w := by
  intro w
  obtain ⟨j, hj, e⟩ := Option.map_eq_some_iff.1 Yba.zero54
  have e1 : j.zero = some (.agg zb.toArray) := congrArg Prod.fst e
  simp [zeroValue, typeInfo, hj, e1]
/-- The sizes seen, as the array has them. -/
def seenF (Y : List Item) (j i : Nat) : Bool := if i = 0 then false else sizeIn (Y.take j) (i - 1)

/-- What the walk is told of ops. -/
def IsOps (W : World) (a : Option Addr) (n : Nat) (op kk ii : Nat → Nat) : Prop :=
  ∀ i, i < n → ∃ b o, a = some ⟨b, o, none⟩ ∧ b < W.heap.size ∧ op i < 256 ∧ kk i < 256 ∧ ii i < 65536 ∧ W.cell? ⟨b, o + i * 3, none⟩ = some (.int .u8 (op i : Int)) ∧ W.cell? ⟨b, o + i * 3 + 1, none⟩ = some (.int .u8 (kk i : Int)) ∧ W.cell? ⟨b, o + i * 3 + 2, none⟩ = some (.int .u16 (ii i : Int))

/-- The loop's relation. -/
def Tour (W : World) (sb k : Nat) (v4 v5 v6 : Value) (w : World) : Prop :=
  ∃ Y : List Item, Y.length ≤ k ∧ (∀ y, y ∈ Y → y.2.2.2 < 256) ∧ Stall W.heap.size W sb Y (2 * k) v4 v5 v6 (Y.map plV) (Y.map szV) (Y.map tgV) w

theorem cut_run (T e : TypeId) (hT : Yba.prog.underlying T = some (.slice e)) (i : TypeInfo) (hi : Yba.prog.info? e = some i) (g m n c : Nat) (hm : m ≤ n) (hc : n ≤ c) : ∀ w : World, (Instr.slice T (.slice (some ⟨g, 0, none⟩) n c) none (some (.int .i64 (m : Int))) none).run Yba.prog w = .ok (.slice (some ⟨g, 0, none⟩) m c) w := by
  intro w
  have t0 : (0 : Int) ≤ (m : Int) := by omega
  have t2 : (m : Int) ≤ (c : Int) := by omega
  go_simp
  simp [sizeOf, typeInfo, hi]

theorem Stall.mono {B : Nat} {W : World} {sb : Nat} {Y : List Item} {t t' : Nat} {v4 v5 v6 : Value} {x4 x5 x6 : List Value} {w : World} (h : Stall B W sb Y t v4 v5 v6 x4 x5 x6 w) (ht : t ≤ t') : Stall B W sb Y t' v4 v5 v6 x4 x5 x6 w := by
  obtain ⟨U, A, S, h1, h2, h3⟩ := h
  exact ⟨U, A, S, h1, ⟨h2.r, h2.mu, h2.good.mono ht, h2.data⟩, h3⟩
theorem Stall.forms {B : Nat} {W : World} {sb : Nat} {Y : List Item} {t : Nat} {v4 v5 v6 : Value} {x4 x5 x6 : List Value} {w : World} (h : Stall B W sb Y t v4 v5 v6 x4 x5 x6 w) :
    (∃ a c, v4 = .slice a x4.length c) ∧ (∃ a c, v5 = .slice a x5.length c) ∧ (∃ a c, v6 = .slice a x6.length c) ∧ B ≤ w.heap.size ∧ w.ownsRow B 25 1 v4 x4.length x4 ∧ w.ownsRow B 3 1 v5 x5.length x5 ∧ w.ownsRow B 5 1 v6 x6.length x6 := by
  obtain ⟨U, A, S, h1, h2, h3⟩ := h
  exact ⟨slice_own h3.r4.own, slice_own h3.r5.own, slice_own h3.r6.own, h3.size, h3.r4.own, h3.r5.own, h3.r6.own⟩

set_option maxRecDepth 100000 in
set_option maxHeartbeats 4000000 in
theorem script_any (W : World) (a0 : Option Addr) (len0 cap0 : Nat) (op kk ii : Nat → Nat) (hops : IsOps W a0 len0 op kk ii) :
    Calls Yba.prog 4 #[.slice a0 len0 cap0] W fun e w' => e = .returned (.bool true) ∧ Below W.heap.size W w' := by
  have HOPS : Hid (IsOps W a0 len0 op kk ii) := hops
  clear hops
  by_cases hbig : 400 < len0
  · have tb : decide ((400 : Int) < (len0 : Int)) = true := by simp; omega
    go_enter Yba.func4, Yba.ntmps4
    go_wp2
    go_ret
    exact ⟨rfl, Below.refl _ _⟩
  have tb : decide ((400 : Int) < (len0 : Int)) = false := by simp; omega
  have hl4 : len0 ≤ 400 := by omega
  go_enter Yba.func4, Yba.ntmps4
  go_wp2_with fail
  refine (new_any (fun k => k < W.heap.size) W (fun _ h => h)).mono ?_
  rintro e w3 ⟨rfl, hR3, hK3⟩
  obtain ⟨sb, HSB⟩ : ∃ x, Hid (x = W.heap.size) := ⟨_, rfl⟩
  rw [← HSB.out]
  have hno : ∀ v : Value, Apt (.slice none 0 0) v := fun v g h1 => absurd h1 (by simp [Value.ownBlock])
  have HT3 : Hid (Tour W sb 0 (.slice none 0 0) (.slice none 0 0) (.slice none 0 0) w3) := by
    refine ⟨[], Nat.le_refl _, fun y hy => absurd hy (by simp), (fun k => k < W.heap.size), _, _, HSB.out.symm, ⟨hR3, rfl, good_new, fun y hy => absurd hy (by simp)⟩, ⟨fun _ h => h, hK3, hK3.size, ⟨World.ownsRow_nil _ _ _ _, fun g h1 => absurd h1 (by simp [Value.ownBlock])⟩, ⟨World.ownsRow_nil _ _ _ _, fun g h1 => absurd h1 (by simp [Value.ownBlock])⟩, ⟨World.ownsRow_nil _ _ _ _, fun g h1 => absurd h1 (by simp [Value.ownBlock])⟩, hno _, hno _, hno _⟩⟩
  clear hR3 hK3 hno tb hbig
  go_upto_block 0 with fail
  go_cut [4, 5, 6] from 31 to 133 (fun v4 v5 v6 wx => Tour W sb len0 v4 v5 v6 wx)
  case first =>
    go_wp2_with fail
    go_loopg [4, 5, 6, 31] len0 (fun g v4 v5 v6 i wr => ∃ k : Nat, k + g = len0 ∧ i = .int .i64 (k : Int) ∧ Tour W sb k v4 v5 v6 wr)
    case atStart => exact ⟨0, by omega, rfl, HT3.out⟩
    case round =>
      obtain ⟨k, hk, rfl, hTk⟩ := hrel
      have HK : Hid (k + gk = len0) := hk
      by_cases hlt : k < len0
      · have tk : decide ((k : Int) < (len0 : Int)) = true := by simpa using hlt
        clear hk
        obtain ⟨xb, xo, rfl, hxb, ho1, ho2, ho3, hc1, hc2, hc3⟩ := HOPS.out k hlt
        have j0 : (0 : Int) ≤ (k : Int) := by omega
        have j1 : (k : Int) < (len0 : Int) := by omega
        have hkw : ∀ o v, W.cell? ⟨xb, o, none⟩ = some v → wr.cell? ⟨xb, o, none⟩ = some v := fun o v hv => by
          obtain ⟨Y, _, _, hS⟩ := hTk
          exact (World.cell?_of_block (hS.low.blk _ hxb)).trans hv
        have c1 := hkw _ _ hc1
        have c2 := hkw _ _ hc2
        have c3 := hkw _ _ hc3
        clear hkw hc1 hc2 hc3
        have HTk : Hid (Tour W sb k u4 u5 u6 wr) := hTk
        clear hTk
        go_upto_region 9 with fail
        go_cut [7, 8] from 33 to 35 (fun v7 v8 wx => v7 = .int .i64 (k : Int) ∧ ∃ b, v8 = .pointer (some ⟨b, 0, none⟩) ∧ wr.grownBy wx none ∧ wx.cell? ⟨b, 0, none⟩ = some (.int .u8 (op k : Int)) ∧ wx.cell? ⟨b, 1, none⟩ = some (.int .u8 (kk k : Int)) ∧ wx.cell? ⟨b, 2, none⟩ = some (.int .u16 (ii k : Int)))
        case first =>
          go_wp2
          go_meet
          case rel => exact ⟨rfl, wr.heap.size, rfl, World.grownBy_alloc _ _ _, (has_own wr _ 52 0 _ rfl).1, (has_own wr _ 52 1 _ rfl).1, (has_own wr _ 52 2 _ rfl).1⟩
        case rest =>
        obtain ⟨rfl, b, rfl, hg, m1, m2, m3⟩ := hcut
        obtain ⟨w4, e4⟩ : ∃ x, x = wc := ⟨_, rfl⟩
        subst e4
        clear c1 c2 c3
        obtain ⟨Y, hYk, hYt, hS0⟩ := HTk.out
        have HYT : Hid (∀ y, y ∈ Y → y.2.2.2 < 256) := hYt
        have hS := hS0.grown hg
        clear hYt hS0 hg
        obtain ⟨n, HN⟩ : ∃ x, Hid (x = Y.length) := ⟨_, rfl⟩
        rw [← HN.out] at hYk
        obtain ⟨x4, HX4⟩ : ∃ x, Hid (x = Y.map plV) := ⟨_, rfl⟩
        obtain ⟨x5, HX5⟩ : ∃ x, Hid (x = Y.map szV) := ⟨_, rfl⟩
        obtain ⟨x6, HX6⟩ : ∃ x, Hid (x = Y.map tgV) := ⟨_, rfl⟩
        rw [← HX4.out, ← HX5.out, ← HX6.out] at hS
        have hx4 : x4.length = n := by rw [HX4.out, List.length_map, HN.out]
        have hx5 : x5.length = n := by rw [HX5.out, List.length_map, HN.out]
        have hx6 : x6.length = n := by rw [HX6.out, List.length_map, HN.out]
        obtain ⟨⟨a4, c4, rfl⟩, ⟨a5, c5, rfl⟩, ⟨a6, c6, rfl⟩, _⟩ := hS.forms
        rw [hx4, hx5, hx6] at hS
        rw [hx4, hx5, hx6]
        have HS : Hid (Stall W.heap.size W sb Y (2 * k) (.slice a4 n c4) (.slice a5 n c5) (.slice a6 n c6) x4 x5 x6 w4) := hS
        have HX : Hid (x4.length = n ∧ x5.length = n ∧ x6.length = n) := ⟨hx4, hx5, hx6⟩
        clear hS hx4 hx5 hx6 HTk
        go_upto_region 10 with fail
        go_cut [44] from 36 to 43 (fun v wx => (∃ bb : Bool, v = .bool bb ∧ (bb = true ↔ op k % 2 = 0 ∨ n = 0)) ∧ w4 = wx)
        case first =>
          by_cases hev : op k % 2 = 0
          · have te : (((op k : Int) % 2) == 0) = true := by rw [beq_iff_eq]; omega
            have HEV : Hid (op k % 2 = 0) := hev
            clear hev
            go_wp2
            go_meet
            case rel => exact ⟨⟨_, rfl, by simp [HEV.out]⟩, rfl⟩
          · have te : (((op k : Int) % 2) == 0) = false := by rw [beq_eq_false_iff_ne]; omega
            have HEV : Hid (¬ op k % 2 = 0) := hev
            clear hev
            go_wp2
            go_meet
            case rel => exact ⟨⟨_, rfl, by simp [HEV.out]⟩, rfl⟩
        case rest =>
        obtain ⟨⟨bb, rfl, hbb⟩, rfl⟩ := hcut
        have HBB : Hid (bb = true ↔ op k % 2 = 0 ∨ n = 0) := hbb
        clear hbb m1
        cases bb with
        | true =>
          clear HBB m3
          obtain ⟨c, HC⟩ : ∃ x, Hid (x = kk k % 64) := ⟨_, rfl⟩
          obtain ⟨sz, HZ⟩ : ∃ x, Hid (x = 8 * (c + 1)) := ⟨_, rfl⟩
          obtain ⟨tg, HTG⟩ : ∃ x, Hid (x = k % 251 + 1) := ⟨_, rfl⟩
          have hc : c < 64 := by rw [HC.out]; omega
          have hz0 : 8 ≤ sz := by rw [HZ.out]; omega
          have hz1 : sz ≤ 512 := by rw [HZ.out]; omega
          have htg : tg < 256 := by rw [HTG.out]; omega
          go_upto_region 11 with fail
          go_cut [9] from 45 to 50 (fun v wx => v = .int .i64 (sz : Int) ∧ w4 = wx)
          case first =>
            go_wp2
            go_meet
            case rel => exact ⟨by rw [HZ.out, HC.out]; simp, rfl⟩
          case rest =>
          obtain ⟨rfl, rfl⟩ := hcut
          clear m2
          have hcall := stall_alloc HS.out (by omega) hc tg
          rw [← HZ.out] at hcall
          go_wp2_with fail
          refine hcall.mono ?_
          rintro e w5 ⟨U, A, S, p, ch, hA, rfl, hF, hD⟩
          clear hcall
          obtain ⟨pl, HPL⟩ : ∃ x, Hid (x = p * 16384 + ch * sz) := ⟨_, rfl⟩
          rw [← HPL.out]
          obtain ⟨_, hlp, hch, hfit, hat⟩ := hF.at
          rw [← HZ.out] at hfit hat
          have hplt := hF.good.lt (by omega) hlp
          have hplb : pl < 20000000000 := by rw [HPL.out]; omega
          have hby := bytes_any hF.r p ch sz pl hlp hplt (by omega) hfit HPL.out
          rw [hA] at hby
          obtain ⟨at0, HAT⟩ : ∃ x, Hid (x = atC p ch sz) := ⟨_, rfl⟩
          obtain ⟨db, HDB⟩ : ∃ x, Hid (x = A.db (p / 8)) := ⟨_, rfl⟩
          rw [← HAT.out, ← HDB.out] at hby
          have HF : Hid (Fill U A S Y (2 * k + 2) w5 p ch c 0 tg) := hF
          have HD : Hid (Desk W.heap.size W (.slice a4 n c4) (.slice a5 n c5) (.slice a6 n c6) x4 x5 x6 U w5) := hD
          have HA : Hid (A.sb = sb) := hA
          clear hF hD hA hlp hch hfit hat hplt
          go_upto_region 13 with fail
          go_cut [11] from 54 to 57 (fun v wx => v = .int .u8 (tg : Int) ∧ w5 = wx)
          case first =>
            go_wp2
            go_meet
            case rel => exact ⟨by rw [HTG.out]; simp, rfl⟩
          case rest =>
          obtain ⟨rfl, rfl⟩ := hcut
          go_wp2_with fail
          refine hby.mono ?_
          rintro e w6 ⟨rfl, rfl⟩
          clear hby
          go_upto_block 2 with fail
          go_cut [13] from 64 to 71 (fun _ wx => ∃ S', Fill U A S' Y (2 * k + 2) wx p ch c sz tg ∧ Keep U w6 wx)
          case first =>
            obtain ⟨G, eG⟩ : ∃ x, x = gk := ⟨_, rfl⟩
            subst eG
            go_wp2_with fail
            go_loopg [13, 64] sz (fun g _ i wq => ∃ j S', j + g = sz ∧ i = .int .i64 ((j : Nat) : Int) ∧ Fill U A S' Y (2 * k + 2) wq p ch c j tg ∧ Keep U w6 wq)
            case atStart => exact ⟨0, S, by omega, rfl, HF.out, Keep.refl _ _⟩
            case round =>
              obtain ⟨j, S', hj, rfl, hFj, hKj⟩ := hrel
              have HJ : Hid (j + gk = sz) := hj
              by_cases hjl : j < sz
              · have tj : decide ((j : Int) < (sz : Int)) = true := by simpa using hjl
                have i0 : (0 : Int) ≤ (j : Int) := by omega
                have i1 : (j : Int) < (sz : Int) := by omega
                obtain ⟨s1, s2⟩ := hFj.cell (by rw [← HZ.out]; exact hjl)
                rw [← HZ.out, ← HAT.out, ← HDB.out] at s1 s2
                have hst := hFj.set (by rw [← HZ.out]; exact hjl)
                rw [← HZ.out, ← HAT.out, ← HDB.out] at hst
                have hkp := hFj.keep hKj (at0 + j) (.int .u8 (tg : Int))
                rw [← HDB.out] at hkp
                have HST : Hid (∃ S'', Fill U A S'' Y (2 * k + 2) (wr.setCell ⟨db, at0 + j, none⟩ (.int .u8 (tg : Int))) p ch c (j + 1) tg) := hst
                clear hst hFj hj
                go_wp2
                go_roundg (gk - 1)
                case measure => have := HJ.out; omega
                case rel =>
                  obtain ⟨S'', h2⟩ := HST.out
                  exact ⟨j + 1, S'', by have := HJ.out; omega, by go_num, h2, hkp⟩
              · have tj : decide ((j : Int) < (sz : Int)) = false := by simpa using hjl
                obtain rfl : j = sz := by omega
                go_wp2
                go_meet
                case rel => exact ⟨S', hFj, hKj⟩
          case rest =>
          obtain ⟨S', hF6, hK6⟩ := hcut
          obtain ⟨w7, e7⟩ : ∃ x, x = wc := ⟨_, rfl⟩
          subst e7
          have HS7 : Hid (Stall W.heap.size W sb (Y ++ [(p, ch, c, tg)]) (2 * k + 2) (.slice a4 n c4) (.slice a5 n c5) (.slice a6 n c6) x4 x5 x6 w7) := ⟨U, A, S', HA.out, hF6.done HZ.out, HD.out.kept hK6⟩
          clear hF6 hK6 HF HD HAT HDB HA HS
          obtain ⟨i0, hi0, zi0, zi1, zi2⟩ := info_parts Yba.info25s
          obtain ⟨l0, hl0, zl0, zl1, zl2⟩ := info_parts Yba.info3s
          obtain ⟨t0, ht0, zt0, zt1, zt2⟩ := info_parts Yba.info5
          obtain ⟨_, _, _, hsz7, hown7, _, _⟩ := HS7.out.forms
          rw [HX.out.1] at hown7
          go_upto_region 20 with fail
          go_cut [4] from 72 to 75 (fun v wx => ∃ g c', v = .slice (some ⟨g, 0, none⟩) (n + 1) c' ∧ Stall W.heap.size W sb (Y ++ [(p, ch, c, tg)]) (2 * k + 2) v (.slice a5 n c5) (.slice a6 n c6) (x4 ++ [.int .u64 (pl : Int)]) x5 x6 wx)
          case first =>
            go_wp2_with (at_builtin; refine wpList_append_lies _ rfl _ _ 24 rfl W.heap.size 25 i0 (.int .u64 0) 1 8 Yba.underlying24 hi0 zi0 zi1 zi2 rfl (by decide) (.slice a4 n c4) n x4 rfl (hown7.alloc _) ⟨w7.heap.size, 0, none⟩ 1 1 [.int .u64 (pl : Int)] rfl rfl (cell_one_new _ _ _) (by simp [Value.oneCell']) (by omega) (by unfold maxLen; omega) (by omega) (by simp; omega) (w7.heap.size + 1) (by simp) ?_; intro g cap w8 hown8 hgrow8 hat8 hlt8)
            go_meet
            case rel => exact ⟨g, cap, rfl, HS7.out.app4 hgrow8 hown8 (by simp [HX.out.1]) hat8 hlt8⟩
          case rest =>
          obtain ⟨g4, d4, rfl, hS8⟩ := hcut
          obtain ⟨w8, e8⟩ : ∃ x, x = wc := ⟨_, rfl⟩
          subst e8
          clear hown7 hsz7 HS7
          obtain ⟨_, _, _, hsz8, _, hown8, _⟩ := hS8.forms
          rw [HX.out.2.1] at hown8
          have HS8 : Hid (Stall W.heap.size W sb (Y ++ [(p, ch, c, tg)]) (2 * k + 2) (.slice (some ⟨g4, 0, none⟩) (n + 1) d4) (.slice a5 n c5) (.slice a6 n c6) (x4 ++ [.int .u64 (pl : Int)]) x5 x6 w8) := hS8
          clear hS8
          go_upto_region 21 with fail
          go_cut [5] from 76 to 79 (fun v wx => ∃ g c', v = .slice (some ⟨g, 0, none⟩) (n + 1) c' ∧ Stall W.heap.size W sb (Y ++ [(p, ch, c, tg)]) (2 * k + 2) (.slice (some ⟨g4, 0, none⟩) (n + 1) d4) v (.slice a6 n c6) (x4 ++ [.int .u64 (pl : Int)]) (x5 ++ [.int .i64 (sz : Int)]) x6 wx)
          case first =>
            go_wp2_with (at_builtin; refine wpList_append_lies _ rfl _ _ 48 rfl W.heap.size 3 l0 (.int .i64 0) 1 8 Yba.underlying48 hl0 zl0 zl1 zl2 rfl (by decide) (.slice a5 n c5) n x5 rfl (hown8.alloc _) ⟨w8.heap.size, 0, none⟩ 1 1 [.int .i64 (sz : Int)] rfl rfl (cell_one_new _ _ _) (by simp [Value.oneCell']) (by omega) (by unfold maxLen; omega) (by omega) (by simp; omega) (w8.heap.size + 1) (by simp) ?_; intro g cap w9 hown9 hgrow9 hat9 hlt9)
            go_meet
            case rel => exact ⟨g, cap, rfl, HS8.out.app5 hgrow9 hown9 (by simp [HX.out.2.1]) hat9 hlt9⟩
          case rest =>
          obtain ⟨g5, d5, rfl, hS9⟩ := hcut
          obtain ⟨w9, e9⟩ : ∃ x, x = wc := ⟨_, rfl⟩
          subst e9
          clear hown8 hsz8 HS8
          obtain ⟨_, _, _, hsz9, _, _, hown9⟩ := hS9.forms
          rw [HX.out.2.2] at hown9
          have HS9 : Hid (Stall W.heap.size W sb (Y ++ [(p, ch, c, tg)]) (2 * k + 2) (.slice (some ⟨g4, 0, none⟩) (n + 1) d4) (.slice (some ⟨g5, 0, none⟩) (n + 1) d5) (.slice a6 n c6) (x4 ++ [.int .u64 (pl : Int)]) (x5 ++ [.int .i64 (sz : Int)]) x6 w9) := hS9
          clear hS9
          have HFIN : Hid (∀ v wx, Stall W.heap.size W sb (Y ++ [(p, ch, c, tg)]) (2 * k + 2) (.slice (some ⟨g4, 0, none⟩) (n + 1) d4) (.slice (some ⟨g5, 0, none⟩) (n + 1) d5) v (x4 ++ [.int .u64 (pl : Int)]) (x5 ++ [.int .i64 (sz : Int)]) (x6 ++ [.int .u8 (tg : Int)]) wx → Tour W sb (k + 1) (.slice (some ⟨g4, 0, none⟩) (n + 1) d4) (.slice (some ⟨g5, 0, none⟩) (n + 1) d5) v wx) := fun v wx hv => by
            refine ⟨Y ++ [(p, ch, c, tg)], by simp [← HN.out]; omega, fun y hy => ?_, ?_⟩
            · rw [List.mem_append] at hy
              rcases hy with hy | hy
              · exact HYT.out y hy
              · obtain rfl : y = (p, ch, c, tg) := by simpa using hy
                exact htg
            · have e1 : plV (p, ch, c, tg) = .int .u64 (pl : Int) := by rw [HPL.out, HZ.out]; rfl
              have e2 : szV (p, ch, c, tg) = .int .i64 (sz : Int) := by rw [HZ.out]; rfl
              rw [List.map_append, List.map_append, List.map_append, ← HX4.out, ← HX5.out, ← HX6.out]
              simp only [List.map_cons, List.map_nil]
              rw [e1, e2]
              exact hv
          go_upto_region 22 with (at_builtin; refine wpList_append_lies _ rfl _ _ 49 rfl W.heap.size 5 t0 (.int .u8 0) 1 1 Yba.underlying49 ht0 zt0 zt1 zt2 rfl (by decide) (.slice a6 n c6) n x6 rfl (hown9.alloc _) ⟨w9.heap.size, 0, none⟩ 1 1 [.int .u8 (tg : Int)] rfl rfl (cell_one_new _ _ _) (by simp [Value.oneCell']) (by omega) (by unfold maxLen; omega) (by omega) (by simp; omega) (w9.heap.size + 1) (by simp) ?_; intro g cap w10 hown10 hgrow10 hat10 hlt10)
          go_wp2_with (at_builtin; refine wpList_append_lies _ rfl _ _ 49 rfl W.heap.size 5 t0 (.int .u8 0) 1 1 Yba.underlying49 ht0 zt0 zt1 zt2 rfl (by decide) (.slice a6 n c6) n x6 rfl (hown9.alloc _) ⟨w9.heap.size, 0, none⟩ 1 1 [.int .u8 (tg : Int)] rfl rfl (cell_one_new _ _ _) (by simp [Value.oneCell']) (by omega) (by unfold maxLen; omega) (by omega) (by simp; omega) (w9.heap.size + 1) (by simp) ?_; intro g cap w10 hown10 hgrow10 hat10 hlt10)
          go_roundg (gk - 1)
          case measure => have := HK.out; omega
          case rel => exact ⟨k + 1, by have := HK.out; omega, by go_num, HFIN.out _ _ (HS9.out.app6 hgrow10 hown10 (by simp [HX.out.2.2]) hat10 hlt10)⟩
        | false =>
          have hn0 : 0 < n := by
            rcases Nat.eq_zero_or_pos n with h | h
            · exact absurd (HBB.out.2 (.inr h)) (by simp)
            · exact h
          clear HBB m2
          obtain ⟨i, HI⟩ : ∃ x, Hid (x = ii k % n) := ⟨_, rfl⟩
          have hin : i < n := by rw [HI.out]; exact Nat.mod_lt _ hn0
          obtain ⟨g4, d4, f4, hcell4⟩ := HS.out.cell4 (by rw [HX.out.1]; exact hn0)
          obtain ⟨g5, d5, f5, hcell5⟩ := HS.out.cell5 (by rw [HX.out.2.1]; exact hn0)
          obtain ⟨g6, d6, f6, hcell6⟩ := HS.out.cell6 (by rw [HX.out.2.2]; exact hn0)
          simp only [Value.slice.injEq] at f4 f5 f6
          obtain ⟨rfl, -, rfl⟩ := f4
          obtain ⟨rfl, -, rfl⟩ := f5
          obtain ⟨rfl, -, rfl⟩ := f6
          rw [HX.out.1] at hcell4
          rw [HX.out.2.1] at hcell5
          rw [HX.out.2.2] at hcell6
          have hnz : ((n : Int) == 0) = false := by rw [beq_eq_false_iff_ne]; omega
          go_upto_region 23 with fail
          go_cut [14] from 84 to 89 (fun v wx => v = .int .i64 (i : Int) ∧ w4 = wx)
          case first =>
            clear hcell4 hcell5 hcell6
            go_wp2
            go_meet
            case rel => exact ⟨by rw [HI.out]; simp, rfl⟩
          case rest =>
          obtain ⟨rfl, rfl⟩ := hcut
          clear m3
          obtain ⟨m, rfl⟩ : ∃ m, n = m + 1 := ⟨n - 1, by omega⟩
          obtain ⟨y, hy⟩ : ∃ y, Y[i]? = some y := ⟨_, List.getElem?_eq_getElem (by rw [← HN.out]; exact hin)⟩
          obtain ⟨z, hz⟩ : ∃ z, Y[m]? = some z := ⟨_, List.getElem?_eq_getElem (by rw [← HN.out]; omega)⟩
          obtain ⟨p, ch, c, tg⟩ := y
          obtain ⟨Z, HZS⟩ : ∃ x, Hid (x = (Y.set i z).take m) := ⟨_, rfl⟩
          have HPM : Hid (Y.Perm ((p, ch, c, tg) :: Z)) := by
            show Y.Perm ((p, ch, c, tg) :: Z)
            have := swap_perm Y i (p, ch, c, tg) z hy (by rw [← HN.out]; exact hz)
            rw [← HN.out] at this
            rw [HZS.out]
            exact this
          obtain ⟨pl, HPL⟩ : ∃ x, Hid (x = p * 16384 + ch * (8 * (c + 1))) := ⟨_, rfl⟩
          obtain ⟨sz, HZ⟩ : ∃ x, Hid (x = 8 * (c + 1)) := ⟨_, rfl⟩
          have b4 : w4.cell? ⟨g4, i, none⟩ = some (.int .u64 (pl : Int)) := by
            rw [(hcell4 i hin).1, HX4.out, List.getElem?_map, hy, HPL.out]
            rfl
          have b5 : w4.cell? ⟨g5, i, none⟩ = some (.int .i64 (sz : Int)) := by
            rw [(hcell5 i hin).1, HX5.out, List.getElem?_map, hy, HZ.out]
            rfl
          have i0 : (0 : Int) ≤ (i : Int) := by omega
          have i1 : (i : Int) < ((m + 1 : Nat) : Int) := by omega
          have HCALL : Hid (∀ X : World, Twin X w4 → Calls Yba.prog 7 #[.pointer (some ⟨sb, 0, none⟩), .int .u64 (pl : Int), .int .i64 (sz : Int)] X fun e w' => e = .returned (.tuple #[]) ∧ Stall W.heap.size W sb Z (2 * k + 1) (.slice (some ⟨g4, 0, none⟩) (m + 1) c4) (.slice (some ⟨g5, 0, none⟩) (m + 1) c5) (.slice (some ⟨g6, 0, none⟩) (m + 1) c6) x4 x5 x6 w') := fun X hX => by
            have := stall_release (HS.out.twin hX) (by omega) HPM.out
            rw [← HPL.out, ← HZ.out] at this
            exact this
          clear hcell4 hcell5 hcell6 hnz
          go_upto_region 24 with fail
          go_cut [90] from 91 to 99 (fun _ wx => Stall W.heap.size W sb Z (2 * k + 1) (.slice (some ⟨g4, 0, none⟩) (m + 1) c4) (.slice (some ⟨g5, 0, none⟩) (m + 1) c5) (.slice (some ⟨g6, 0, none⟩) (m + 1) c6) x4 x5 x6 wx)
          case first =>
            go_region_with (go_at_call 7; refine (HCALL.out _ (by exact ⟨rfl, rfl, rfl, rfl⟩)).mono ?_; rintro e w5 ⟨rfl, hS5⟩)
            all_goals go_wp2
            all_goals go_meet
            all_goals exact hS5
          case rest =>
          have hS5 := hcut
          obtain ⟨w5, e5⟩ : ∃ x, x = wc := ⟨_, rfl⟩
          subst e5
          clear hcut b4 b5 HCALL HS HPM HPL HZ
          have hxl4 : x4.length = m + 1 := HX.out.1
          have hxl5 : x5.length = m + 1 := HX.out.2.1
          have hxl6 : x6.length = m + 1 := HX.out.2.2
          have q0 : (0 : Int) ≤ (m : Int) := by omega
          have q1 : (m : Int) < ((m + 1 : Nat) : Int) := by omega
          obtain ⟨pz, HPZ⟩ : ∃ x : Nat, Hid (plV z = .int .u64 (x : Int)) := ⟨_, rfl⟩
          obtain ⟨sz, HSZ⟩ : ∃ x : Nat, Hid (szV z = .int .i64 (x : Int)) := ⟨_, rfl⟩
          obtain ⟨tz, HTZ⟩ : ∃ x : Nat, Hid (tgV z = .int .u8 (x : Int)) := ⟨_, rfl⟩
          have z4 : x4[m]? = some (.int .u64 (pz : Int)) := by rw [HX4.out, List.getElem?_map, hz, Option.map_some, HPZ.out]
          have z5 : x5[m]? = some (.int .i64 (sz : Int)) := by rw [HX5.out, List.getElem?_map, hz, Option.map_some, HSZ.out]
          have z6 : x6[m]? = some (.int .u8 (tz : Int)) := by rw [HX6.out, List.getElem?_map, hz, Option.map_some, HTZ.out]
          have HZ456 : Hid (x4[m]? = some (.int .u64 (pz : Int)) ∧ x5[m]? = some (.int .i64 (sz : Int)) ∧ x6[m]? = some (.int .u8 (tz : Int))) := ⟨z4, z5, z6⟩
          have HZM : Hid (Y[m]? = some z) := hz
          clear z4 z5 z6 hz hy
          go_upto_region 25 with fail
          go_cut [15] from 100 to 102 (fun v wx => v = .int .i64 (m : Int) ∧ w5 = wx)
          case first =>
            go_wp2
            go_meet
            case rel => exact ⟨by simp, rfl⟩
          case rest =>
          obtain ⟨rfl, rfl⟩ := hcut
          have HS5 : Hid (Stall W.heap.size W sb Z (2 * k + 1) (.slice (some ⟨g4, 0, none⟩) (m + 1) c4) (.slice (some ⟨g5, 0, none⟩) (m + 1) c5) (.slice (some ⟨g6, 0, none⟩) (m + 1) c6) x4 x5 x6 w5) := hS5
          clear hS5
          obtain ⟨_, _, _, _, o4, _, _⟩ := HS5.out.forms
          rw [hxl4] at o4
          have r1 : w5.cell? ⟨g4, m, none⟩ = some (.int .u64 (pz : Int)) := (o4.cellAt m (by omega)).trans HZ456.out.1
          have r2 : w5.cell? ⟨g4, i, none⟩ = x4[i]? := o4.cellAt i (by omega)
          obtain ⟨xi, hxi⟩ : ∃ v, x4[i]? = some v := ⟨_, List.getElem?_eq_getElem (by omega)⟩
          rw [hxi] at r2
          have r3 : w5.frozen? ⟨g4, i, none⟩ = false := o4.frozenAt i
          clear o4 hxi
          go_upto_region 26 with fail
          go_cut [103] from 104 to 109 (fun _ wx => Stall W.heap.size W sb Z (2 * k + 1) (.slice (some ⟨g4, 0, none⟩) (m + 1) c4) (.slice (some ⟨g5, 0, none⟩) (m + 1) c5) (.slice (some ⟨g6, 0, none⟩) (m + 1) c6) (x4.set i (.int .u64 (pz : Int))) x5 x6 wx)
          case first =>
            go_wp2
            go_meet
            case rel => exact HS5.out.set4 HX.out.1.symm i _
          case rest =>
          have hS6 := hcut
          obtain ⟨w6, e6⟩ : ∃ x, x = wc := ⟨_, rfl⟩
          subst e6
          clear hcut r1 r2 r3 HS5
          have HS6 : Hid (Stall W.heap.size W sb Z (2 * k + 1) (.slice (some ⟨g4, 0, none⟩) (m + 1) c4) (.slice (some ⟨g5, 0, none⟩) (m + 1) c5) (.slice (some ⟨g6, 0, none⟩) (m + 1) c6) (x4.set i (.int .u64 (pz : Int))) x5 x6 w6) := hS6
          clear hS6
          obtain ⟨_, _, _, _, _, o5, _⟩ := HS6.out.forms
          rw [hxl5] at o5
          have r1 : w6.cell? ⟨g5, m, none⟩ = some (.int .i64 (sz : Int)) := (o5.cellAt m (by omega)).trans HZ456.out.2.1
          have r2 : w6.cell? ⟨g5, i, none⟩ = x5[i]? := o5.cellAt i (by omega)
          obtain ⟨xj, hxj⟩ : ∃ v, x5[i]? = some v := ⟨_, List.getElem?_eq_getElem (by omega)⟩
          rw [hxj] at r2
          have r3 : w6.frozen? ⟨g5, i, none⟩ = false := o5.frozenAt i
          clear o5 hxj
          go_upto_region 27 with fail
          go_cut [110] from 111 to 116 (fun _ wx => Stall W.heap.size W sb Z (2 * k + 1) (.slice (some ⟨g4, 0, none⟩) (m + 1) c4) (.slice (some ⟨g5, 0, none⟩) (m + 1) c5) (.slice (some ⟨g6, 0, none⟩) (m + 1) c6) (x4.set i (.int .u64 (pz : Int))) (x5.set i (.int .i64 (sz : Int))) x6 wx)
          case first =>
            go_wp2
            go_meet
            case rel => exact HS6.out.set5 HX.out.2.1.symm i _
          case rest =>
          have hS7 := hcut
          obtain ⟨w7, e7⟩ : ∃ x, x = wc := ⟨_, rfl⟩
          subst e7
          clear hcut r1 r2 r3 HS6
          have HS7 : Hid (Stall W.heap.size W sb Z (2 * k + 1) (.slice (some ⟨g4, 0, none⟩) (m + 1) c4) (.slice (some ⟨g5, 0, none⟩) (m + 1) c5) (.slice (some ⟨g6, 0, none⟩) (m + 1) c6) (x4.set i (.int .u64 (pz : Int))) (x5.set i (.int .i64 (sz : Int))) x6 w7) := hS7
          clear hS7
          obtain ⟨_, _, _, _, _, _, o6⟩ := HS7.out.forms
          rw [hxl6] at o6
          have r1 : w7.cell? ⟨g6, m, none⟩ = some (.int .u8 (tz : Int)) := (o6.cellAt m (by omega)).trans HZ456.out.2.2
          have r2 : w7.cell? ⟨g6, i, none⟩ = x6[i]? := o6.cellAt i (by omega)
          obtain ⟨xk, hxk⟩ : ∃ v, x6[i]? = some v := ⟨_, List.getElem?_eq_getElem (by omega)⟩
          rw [hxk] at r2
          have r3 : w7.frozen? ⟨g6, i, none⟩ = false := o6.frozenAt i
          clear o6 hxk
          go_upto_region 28 with fail
          go_cut [117] from 118 to 123 (fun _ wx => Stall W.heap.size W sb Z (2 * k + 1) (.slice (some ⟨g4, 0, none⟩) (m + 1) c4) (.slice (some ⟨g5, 0, none⟩) (m + 1) c5) (.slice (some ⟨g6, 0, none⟩) (m + 1) c6) (x4.set i (.int .u64 (pz : Int))) (x5.set i (.int .i64 (sz : Int))) (x6.set i (.int .u8 (tz : Int))) wx)
          case first =>
            go_wp2
            go_meet
            case rel => exact HS7.out.set6 HX.out.2.2.symm i _
          case rest =>
          have hS8 := hcut
          obtain ⟨w8, e8⟩ : ∃ x, x = wc := ⟨_, rfl⟩
          subst e8
          clear hcut r1 r2 r3 HS7
          have HFIN : Hid (Tour W sb (k + 1) (.slice (some ⟨g4, 0, none⟩) m c4) (.slice (some ⟨g5, 0, none⟩) m c5) (.slice (some ⟨g6, 0, none⟩) m c6) w8) := by
            have hc := hS8.cut (by simp [hxl4]) (by simp [hxl5]) (by simp [hxl6]) m (by omega)
            have hzY : z ∈ Y := List.mem_of_getElem? HZM.out
            refine ⟨Z, ?_, fun y hy => ?_, ?_⟩
            · rw [HZS.out, List.length_take]
              omega
            · rw [HZS.out] at hy
              have h1 := List.mem_of_mem_take hy
              rcases List.mem_or_eq_of_mem_set h1 with h2 | h2
              · exact HYT.out y h2
              · rw [h2]
                exact HYT.out z hzY
            · have e4 : (x4.set i (.int .u64 (pz : Int))).take m = Z.map plV := by rw [HZS.out, List.map_take, List.map_set, ← HX4.out, HPZ.out]
              have e5 : (x5.set i (.int .i64 (sz : Int))).take m = Z.map szV := by rw [HZS.out, List.map_take, List.map_set, ← HX5.out, HSZ.out]
              have e6 : (x6.set i (.int .u8 (tz : Int))).take m = Z.map tgV := by rw [HZS.out, List.map_take, List.map_set, ← HX6.out, HTZ.out]
              rw [e4, e5, e6] at hc
              exact hc.mono (by omega)
          obtain ⟨_, _, _, _, o4, o5, o6⟩ := hS8.forms
          have hk4 : m + 1 ≤ c4 ∧ c4 ≤ maxLen := by
            rcases o4.2 with ⟨h1, _⟩ | ⟨_, _, _, h1, _, _, h2, h3, _⟩
            · simp at h1
            · simp only [Value.slice.injEq] at h1
              obtain ⟨_, h5, rfl⟩ := h1
              exact ⟨by rw [List.length_set, hxl4] at h2; exact h2, h3⟩
          have hk5 : m + 1 ≤ c5 ∧ c5 ≤ maxLen := by
            rcases o5.2 with ⟨h1, _⟩ | ⟨_, _, _, h1, _, _, h2, h3, _⟩
            · simp at h1
            · simp only [Value.slice.injEq] at h1
              obtain ⟨_, h5, rfl⟩ := h1
              exact ⟨by rw [List.length_set, hxl5] at h2; exact h2, h3⟩
          have hk6 : m + 1 ≤ c6 ∧ c6 ≤ maxLen := by
            rcases o6.2 with ⟨h1, _⟩ | ⟨_, _, _, h1, _, _, h2, h3, _⟩
            · simp at h1
            · simp only [Value.slice.injEq] at h1
              obtain ⟨_, h5, rfl⟩ := h1
              exact ⟨by rw [List.length_set, hxl6] at h2; exact h2, h3⟩
          clear o4 o5 o6 hS8
          obtain ⟨i0, hi0, -⟩ := info_parts Yba.info25s
          obtain ⟨l0, hl0, -⟩ := info_parts Yba.info3s
          obtain ⟨t0, ht0, -⟩ := info_parts Yba.info5
          have sl4 := cut_run 24 25 Yba.underlying24 i0 hi0 g4 m (m + 1) c4 (by omega) (by omega)
          have sl5 := cut_run 48 3 Yba.underlying48 l0 hl0 g5 m (m + 1) c5 (by omega) (by omega)
          have sl6 := cut_run 49 5 Yba.underlying49 t0 ht0 g6 m (m + 1) c6 (by omega) (by omega)
          go_wp2
          go_roundg (gk - 1)
          case measure => have := HK.out; omega
          case rel => exact ⟨k + 1, by have := HK.out; omega, by go_num, HFIN.out⟩
      · have tk : decide ((k : Int) < (len0 : Int)) = false := by simpa using hlt
        obtain rfl : k = len0 := by omega
        go_wp2
        go_meet
        case rel => exact hTk
  case rest =>
  obtain ⟨Y, hYk, hYt, hS0⟩ := hcut
  obtain ⟨w4, e4⟩ : ∃ x, x = wc := ⟨_, rfl⟩
  subst e4
  clear HT3 HSB HOPS
  obtain ⟨n, HN⟩ : ∃ x, Hid (x = Y.length) := ⟨_, rfl⟩
  rw [← HN.out] at hYk
  obtain ⟨x4, HX4⟩ : ∃ x, Hid (x = Y.map plV) := ⟨_, rfl⟩
  obtain ⟨x5, HX5⟩ : ∃ x, Hid (x = Y.map szV) := ⟨_, rfl⟩
  obtain ⟨x6, HX6⟩ : ∃ x, Hid (x = Y.map tgV) := ⟨_, rfl⟩
  rw [← HX4.out, ← HX5.out, ← HX6.out] at hS0
  have hx4 : x4.length = n := by rw [HX4.out, List.length_map, HN.out]
  have hx5 : x5.length = n := by rw [HX5.out, List.length_map, HN.out]
  have hx6 : x6.length = n := by rw [HX6.out, List.length_map, HN.out]
  obtain ⟨⟨a4, c4, rfl⟩, ⟨a5, c5, rfl⟩, ⟨a6, c6, rfl⟩, _⟩ := hS0.forms
  rw [hx4, hx5, hx6] at hS0
  rw [hx4, hx5, hx6]
  have HS0 : Hid (Stall W.heap.size W sb Y (2 * len0) (.slice a4 n c4) (.slice a5 n c5) (.slice a6 n c6) x4 x5 x6 w4) := hS0
  have HX : Hid (x4.length = n ∧ x5.length = n ∧ x6.length = n) := ⟨hx4, hx5, hx6⟩
  clear hS0 hx4 hx5 hx6 hYt
  have hz54 := zero54_run
  have hzb : ∀ i, i < 65 → zb.toArray[i]? = some (.bool false) := fun i hi => by
    rw [List.getElem?_toArray]
    unfold zb
    rw [List.getElem?_replicate, if_pos hi]
  have hzl : zb.toArray.size = 65 := by rw [List.size_toArray]; unfold zb; rw [List.length_replicate]
  generalize zb.toArray = zA at hz54 hzb hzl
  have hSN := show_new HS0.out zA 54 hzb
  clear hzb
  go_upto_region 34 with fail
  obtain ⟨w5, e5⟩ : ∃ x, x = w4.alloc (Obj.cells zA 54) := ⟨_, rfl⟩
  obtain ⟨sn, esn⟩ : ∃ x, x = w4.heap.size := ⟨_, rfl⟩
  rw [← e5, ← esn] at hSN
  rw [← e5, ← esn]
  have HSN : Hid (Show W.heap.size W sb Y (2 * len0) (.slice a4 n c4) (.slice a5 n c5) (.slice a6 n c6) x4 x5 x6 sn (seenF Y 0) w5) := hSN.same _ (fun i _ => by unfold seenF sizeIn; simp)
  clear e5 esn hSN hz54 hzl HS0
  go_upto_block 4 with fail
  go_cut [17] from 136 to 194 (fun v wx => v = .int .i64 ((cntP (sizeIn Y) 64 : Nat) : Int) ∧ Stall W.heap.size W sb Y (2 * len0) (.slice a4 n c4) (.slice a5 n c5) (.slice a6 n c6) x4 x5 x6 wx)
  case first =>
    go_wp2_with fail
    go_loopg [17, 136] n (fun g v iv wr => ∃ j : Nat, j + g = n ∧ iv = .int .i64 (j : Int) ∧ v = .int .i64 ((cntP (sizeIn (Y.take j)) 64 : Nat) : Int) ∧ Show W.heap.size W sb Y (2 * len0) (.slice a4 n c4) (.slice a5 n c5) (.slice a6 n c6) x4 x5 x6 sn (seenF Y j) wr)
    case atStart => exact ⟨0, by omega, rfl, rfl, HSN.out⟩
    case round =>
      obtain ⟨j, hj, rfl, rfl, hSj⟩ := hrel
      have HJ : Hid (j + gk = n) := hj
      by_cases hjl : j < n
      · have tj : decide ((j : Int) < (n : Int)) = true := by simpa using hjl
        clear hj
        have HSJ : Hid (Show W.heap.size W sb Y (2 * len0) (.slice a4 n c4) (.slice a5 n c5) (.slice a6 n c6) x4 x5 x6 sn (seenF Y j) wr) := hSj
        clear hSj
        obtain ⟨G, eG⟩ : ∃ x, x = gk := ⟨_, rfl⟩
        subst eG
        obtain ⟨w6, e6⟩ : ∃ x, x = wr := ⟨_, rfl⟩
        subst e6
        obtain ⟨g4, d4, f4, hcell4⟩ := HSJ.out.stall.cell4 (by rw [HX.out.1]; omega)
        obtain ⟨g5, d5, f5, hcell5⟩ := HSJ.out.stall.cell5 (by rw [HX.out.2.1]; omega)
        obtain ⟨g6, d6, f6, hcell6⟩ := HSJ.out.stall.cell6 (by rw [HX.out.2.2]; omega)
        simp only [Value.slice.injEq] at f4 f5 f6
        obtain ⟨rfl, -, rfl⟩ := f4
        obtain ⟨rfl, -, rfl⟩ := f5
        obtain ⟨rfl, -, rfl⟩ := f6
        rw [HX.out.1] at hcell4
        rw [HX.out.2.1] at hcell5
        rw [HX.out.2.2] at hcell6
        obtain ⟨y, hy⟩ : ∃ y, Y[j]? = some y := ⟨_, List.getElem?_eq_getElem (by rw [← HN.out]; exact hjl)⟩
        obtain ⟨p, ch, c, tg⟩ := y
        obtain ⟨db, at0, hc, hplb, hdat, hby⟩ := stall_bytes HSJ.out.stall (by omega) hy
        obtain ⟨pl, HPL⟩ : ∃ x, Hid (x = p * 16384 + ch * (8 * (c + 1))) := ⟨_, rfl⟩
        obtain ⟨sz, HZ⟩ : ∃ x, Hid (x = 8 * (c + 1)) := ⟨_, rfl⟩
        have c1 : w6.cell? ⟨g4, j, none⟩ = some (.int .u64 (pl : Int)) := by
          rw [(hcell4 j hjl).1, HX4.out, List.getElem?_map, hy, HPL.out]
          rfl
        have c2 : w6.cell? ⟨g5, j, none⟩ = some (.int .i64 (sz : Int)) := by
          rw [(hcell5 j hjl).1, HX5.out, List.getElem?_map, hy, HZ.out]
          rfl
        have c3 : w6.cell? ⟨g6, j, none⟩ = some (.int .u8 (tg : Int)) := by
          rw [(hcell6 j hjl).1, HX6.out, List.getElem?_map, hy]
          rfl
        rw [← HPL.out] at hplb
        rw [← HPL.out, ← HZ.out] at hby
        rw [← HZ.out] at hdat
        have HC : Hid (w6.cell? ⟨g4, j, none⟩ = some (.int .u64 (pl : Int)) ∧ w6.cell? ⟨g5, j, none⟩ = some (.int .i64 (sz : Int)) ∧ w6.cell? ⟨g6, j, none⟩ = some (.int .u8 (tg : Int))) := ⟨c1, c2, c3⟩
        have HBY : Hid (∀ X : World, Twin X w6 → Calls Yba.prog 9 #[.pointer (some ⟨sb, 0, none⟩), .int .u64 (pl : Int), .int .i64 (sz : Int)] X fun e w' => e = .returned (.slice (some ⟨db, at0, none⟩) sz sz) ∧ w' = X) := hby
        have HDAT : Hid (∀ o, o < sz → w6.cell? ⟨db, at0 + o, none⟩ = some (.int .u8 (tg : Int))) := hdat
        have HNE : Hid (∀ b, b < n → j ≠ b → ∃ q : Nat, w6.cell? ⟨g4, b, none⟩ = some (.int .u64 (q : Int)) ∧ ((pl : Int) == (q : Int)) = false) := fun b hb hne => by
          obtain ⟨y', hy'⟩ : ∃ y, Y[b]? = some y := ⟨_, List.getElem?_eq_getElem (by rw [← HN.out]; exact hb)⟩
          obtain ⟨p', ch', c', tg'⟩ := y'
          refine ⟨p' * 16384 + ch' * (8 * (c' + 1)), ?_, ?_⟩
          · rw [(hcell4 b hb).1, HX4.out, List.getElem?_map, hy']
            rfl
          · have := HSJ.out.stall.places hy hy' hne
            rw [beq_eq_false_iff_ne, HPL.out]
            omega
        have HY : Hid (Y[j]? = some (p, ch, c, tg)) := hy
        have hz0 : 8 ≤ sz := by rw [HZ.out]; omega
        have hz1 : sz ≤ 512 := by rw [HZ.out]; omega
        clear hby hdat c1 c2 c3 hcell4 hcell5 hcell6 hy
        have i0 : (0 : Int) ≤ (j : Int) := by omega
        have i1 : (j : Int) < (n : Int) := by omega
        go_upto_block 6 with fail
        go_cut [19] from 141 to 155 (fun _ wx => Twin wx w6)
        case first =>
          go_wp2_with fail
          go_loopg [19] (n - j) (fun g i wq => ∃ b : Nat, j < b ∧ b + g = n + 1 ∧ b ≤ n ∧ i = .int .i64 (b : Int) ∧ Twin wq w6)
          case atStart => exact ⟨j + 1, by omega, by omega, by omega, by go_num, rfl, rfl, rfl, rfl⟩
          case round =>
            obtain ⟨b, hb0, hb, hb1, rfl, hTq⟩ := hrel
            have HB : Hid (b + gk = n + 1) := hb
            clear hb
            by_cases hbl : b < n
            · have tb : decide ((b : Int) < (n : Int)) = true := by simpa using hbl
              have i2 : (0 : Int) ≤ (b : Int) := by omega
              have i3 : (b : Int) < (n : Int) := by omega
              obtain ⟨q, hq, hne⟩ := HNE.out b hbl (by omega)
              have x1 : wr.cell? ⟨g4, j, none⟩ = some (.int .u64 (pl : Int)) := (World.cell?_of_block (by rw [hTq.1])).trans HC.out.1
              have x2 : wr.cell? ⟨g4, b, none⟩ = some (.int .u64 (q : Int)) := (World.cell?_of_block (by rw [hTq.1])).trans hq
              clear hq
              go_upto_region 41 with fail
              go_cut [155] from 147 to 154 (fun v wx => v = .bool false ∧ Twin wx w6)
              case first =>
                go_wp2_with fail
                go_quiet (fail)
                go_wp2
                go_meet
                case rel => exact ⟨rfl, hTq⟩
              case rest =>
              obtain ⟨rfl, hT7⟩ := hcut
              clear x1 x2 hne
              go_wp2
              go_roundg (gk - 1)
              case measure => have := HB.out; omega
              case rel => exact ⟨b + 1, by omega, by have := HB.out; omega, by omega, by go_num, hT7⟩
            · have tb : decide ((b : Int) < (n : Int)) = false := by simpa using hbl
              go_wp2
              go_meet
              case rel => exact hTq
        case rest =>
        have hT7 := hcut
        obtain ⟨w7, e7⟩ : ∃ x, x = wc := ⟨_, rfl⟩
        subst e7
        clear hcut HNE
        have HT7 : Hid (Twin w7 w6) := hT7
        have x1 : w7.cell? ⟨g4, j, none⟩ = some (.int .u64 (pl : Int)) := (World.cell?_of_block (by rw [hT7.1])).trans HC.out.1
        have x2 : w7.cell? ⟨g5, j, none⟩ = some (.int .i64 (sz : Int)) := (World.cell?_of_block (by rw [hT7.1])).trans HC.out.2.1
        clear hT7
        go_upto_region 43 with fail
        go_cut [20] from 156 to 165 (fun v wx => v = .slice (some ⟨db, at0, none⟩) sz sz ∧ Twin wx w6)
        case first =>
          go_region_with (go_at_call 9; refine (HBY.out _ (by exact HT7.out)).mono ?_; rintro e w8 ⟨rfl, rfl⟩)
          all_goals go_wp2
          all_goals go_meet
          all_goals exact ⟨rfl, HT7.out⟩
        case rest =>
        obtain ⟨rfl, hT8⟩ := hcut
        obtain ⟨w8, e8⟩ : ∃ x, x = wc := ⟨_, rfl⟩
        subst e8
        have HT8 : Hid (Twin w8 w6) := hT8
        clear x1 x2 HT7 HBY hT8
        go_upto_block 8 with fail
        go_cut [21] from 168 to 180 (fun _ wx => Twin wx w6)
        case first =>
          go_wp2_with fail
          go_loopg [21, 168] sz (fun g _ i wq => ∃ o : Nat, o + g = sz ∧ i = .int .i64 (o : Int) ∧ Twin wq w6)
          case atStart => exact ⟨0, by omega, rfl, HT8.out⟩
          case round =>
            obtain ⟨o, ho, rfl, hTq⟩ := hrel
            have HO : Hid (o + gk = sz) := ho
            by_cases hol : o < sz
            · have tb : decide ((o : Int) < (sz : Int)) = true := by simpa using hol
              have i2 : (0 : Int) ≤ (o : Int) := by omega
              have i3 : (o : Int) < (sz : Int) := by omega
              have x1 : wr.cell? ⟨db, at0 + o, none⟩ = some (.int .u8 (tg : Int)) := (World.cell?_of_block (by rw [hTq.1])).trans (HDAT.out o hol)
              have x2 : wr.cell? ⟨g6, j, none⟩ = some (.int .u8 (tg : Int)) := (World.cell?_of_block (by rw [hTq.1])).trans HC.out.2.2
              have hne : (((tg : Int)) != (tg : Int)) = false := by simp
              clear ho
              go_upto_region 47 with fail
              go_cut [179] from 171 to 178 (fun v wx => v = .bool false ∧ Twin wx w6)
              case first =>
                go_wp2_with fail
                go_quiet (fail)
                go_wp2
                go_meet
                case rel => exact ⟨by simp, hTq⟩
              case rest =>
              obtain ⟨rfl, hT9⟩ := hcut
              clear x1 x2 hne
              go_wp2
              go_roundg (gk - 1)
              case measure => have := HO.out; omega
              case rel => exact ⟨o + 1, by have := HO.out; omega, by go_num, hT9⟩
            · have tb : decide ((o : Int) < (sz : Int)) = false := by simpa using hol
              go_wp2
              go_meet
              case rel => exact hTq
        case rest =>
        have hT9 := hcut
        obtain ⟨w9, e9⟩ : ∃ x, x = wc := ⟨_, rfl⟩
        subst e9
        clear hcut HT8 HDAT
        have hS9 := HSJ.out.twin hT9
        have x1 : w9.cell? ⟨g5, j, none⟩ = some (.int .i64 (sz : Int)) := (World.cell?_of_block (by rw [hT9.1])).trans HC.out.2.1
        go_upto_region 50 with fail
        go_cut [22] from 181 to 185 (fun v wx => v = .int .i64 ((c + 1 : Nat) : Int) ∧ w9 = wx)
        case first =>
          go_wp2
          go_meet
          case rel =>
            refine ⟨?_, rfl⟩
            congr 1
            rw [HZ.out]
            omega
        case rest =>
        obtain ⟨rfl, rfl⟩ := hcut
        clear x1 hT9 HC
        have k0 : (0 : Int) ≤ ((c + 1 : Nat) : Int) := by omega
        have k1 : ((c + 1 : Nat) : Int) < 65 := by omega
        obtain ⟨x1, x2⟩ := hS9.seen (c + 1) (by omega)
        have hf : seenF Y j (c + 1) = sizeIn (Y.take j) c := by
          unfold seenF
          rw [if_neg (by omega), Nat.add_sub_cancel]
        rw [hf] at x1
        have hcl := cntP_le (sizeIn (Y.take j)) 64
        obtain ⟨C, HCC⟩ : ∃ x, Hid (x = cntP (sizeIn (Y.take j)) 64) := ⟨_, rfl⟩
        rw [← HCC.out] at hcl
        rw [← HCC.out]
        have HS9 : Hid (Show W.heap.size W sb Y (2 * len0) (.slice (some ⟨g4, 0, none⟩) n c4) (.slice (some ⟨g5, 0, none⟩) n c5) (.slice (some ⟨g6, 0, none⟩) n c6) x4 x5 x6 sn (seenF Y j) w9) := hS9
        clear hS9 hf
        cases hs : sizeIn (Y.take j) c with
        | true =>
          rw [hs] at x1
          have hcn := cntP_seen Y j _ HY.out hs
          have HFIN : Hid (cntP (sizeIn (Y.take (j + 1))) 64 = C ∧ ∀ i, seenF Y (j + 1) i = seenF Y j i) := ⟨hcn.2.trans HCC.out.symm, fun i => by unfold seenF; rw [hcn.1]⟩
          clear hcn hs
          go_wp2
          go_roundg (G - 1)
          case measure => have := HJ.out; omega
          case rel => exact ⟨j + 1, by have := HJ.out; omega, by go_num, by rw [HFIN.out.1], HS9.out.same _ (fun i _ => HFIN.out.2 i)⟩
        | false =>
          rw [hs] at x1
          have hcn := cntP_new Y j _ HY.out hc hs
          have HFIN : Hid (cntP (sizeIn (Y.take (j + 1))) 64 = C + 1 ∧ ∀ i, seenF Y (j + 1) i = if i = c + 1 then true else seenF Y j i) := ⟨by rw [hcn.2, HCC.out], fun i => by
            unfold seenF
            by_cases e : i = 0
            · rw [if_pos e, if_pos e, if_neg (by omega)]
            · rw [if_neg e, if_neg e, hcn.1]
              by_cases e2 : i = c + 1
              · rw [if_pos e2, if_pos (by show i - 1 = c; omega)]
              · rw [if_neg e2, if_neg (by show ¬ i - 1 = c; omega)]⟩
          clear hcn hs
          go_wp2
          go_roundg (G - 1)
          case measure => have := HJ.out; omega
          case rel => exact ⟨j + 1, by have := HJ.out; omega, by go_num, by rw [HFIN.out.1]; go_num, HS9.out.set (c + 1) (by omega) _ (fun i _ => HFIN.out.2 i)⟩
      · have tj : decide ((j : Int) < (n : Int)) = false := by simpa using hjl
        obtain rfl : j = n := by omega
        have eY : Y.take j = Y := by rw [HN.out]; exact List.take_length
        rw [eY]
        have hSj' := hSj.stall
        clear hSj
        go_wp2
        go_meet
        case rel => exact ⟨rfl, hSj'⟩
  case rest =>
  obtain ⟨rfl, hS9⟩ := hcut
  obtain ⟨w9, e9⟩ : ∃ x, x = wc := ⟨_, rfl⟩
  subst e9
  clear HSN
  have hcl := cntP_le (sizeIn Y) 64
  have hcall := stall_held hS9
  obtain ⟨C, HCC⟩ : ∃ x, Hid (x = cntP (sizeIn Y) 64) := ⟨_, rfl⟩
  rw [← HCC.out] at hcall hcl
  rw [← HCC.out]
  clear hS9
  go_wp2_with fail
  refine hcall.mono ?_
  rintro e w10 ⟨X, rfl, hK⟩
  clear hcall
  go_wp2
  go_ret
  exact ⟨by simp, hK.os, hK.tape, hK.output, hK.size, hK.blk⟩

end Go.Proofs.Ybulkcqic
