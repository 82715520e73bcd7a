import Derived.Test.YbulkcqiqExact
namespace Go.Proofs.Ybulkcqiq
open Go.RowKit

theorem strsC_split (ss : List ByteArray) (k : Nat) (h : k < ss.length) : strsC ss = strsC (ss.take k) ++ (uvC (ss.getD k ByteArray.empty).size ++ (Lib.strCells (ss.getD k ByteArray.empty) ++ strsC (ss.drop (k + 1)))) := by
  have e : ss = ss.take k ++ (ss.getD k ByteArray.empty :: ss.drop (k + 1)) := by
    rw [List.getD_eq_getElem?_getD, List.getElem?_eq_getElem h]
    simp
  conv => lhs; rw [e]
  simp [strsC, strC]

theorem at_mid (A B C : List Value) (j : Nat) (hj : j < B.length) : (A ++ (B ++ C))[A.length + j]? = B[j]? := by
  rw [List.getElem?_append_right (by omega), Nat.add_sub_cancel_left, List.getElem?_append_left hj]

/-- The cut got[p : p + n], p + n no more than its length: its address is got's own only where the capacity ends. -/
theorem cut_run (g o nL cg p n : Nat) (h1 : p + n ≤ nL) (h2 : nL ≤ cg) (h3 : nL ≤ 100000000) :
    ∃ ad : Addr, (0 < n → ad = (⟨g, o + p, none⟩ : Addr)) ∧ ∀ w, (Instr.slice 22 (.slice (some ⟨g, o, none⟩) nL cg) (some (.int .i64 (p : Int))) (some (.int .i64 ((p : Int) + (n : Int)))) none).run Yba.prog w = .ok (.slice (some ad) n (cg - p)) w := by
  refine ⟨if cg = p then ⟨g, o, none⟩ else ⟨g, o + p, none⟩, fun h => by rw [if_neg (by omega)], fun w => ?_⟩
  rw [apply_ite some]
  have e1 : (0 : Int) ≤ p := by omega
  have e2 : (p : Int) ≤ (p : Int) + (n : Int) := by omega
  have e3 : (p : Int) + (n : Int) ≤ (cg : Int) := by omega
  go_simp
  omega

set_option maxRecDepth 100000 in
set_option maxHeartbeats 800000 in
theorem round_small (a0 : Option Addr) (n0 c0 : Nat) (zs : List Value) (a1 : Option Addr) (m c1 : Nat) (ss : List ByteArray) (w : World) (hn : n0 ≤ 1024) (hm : m ≤ 1024)
    (hbuf : IsBuf w a0 n0 c0 zs) (hstr : IsStrs w a1 m ss) :
    Calls Yba.prog 4 #[.slice a0 n0 c0, .slice a1 m c1] w fun e w' => e = .returned (.bool true) ∧ Below w.heap.size w w' := by
  have t0 : decide ((1024 : Int) < (n0 : Int)) = false := by simp; omega
  have t1 : decide ((1024 : Int) < (m : Int)) = false := by simp; omega
  have hsl := hstr.len
  go_enter Yba.func4, Yba.ntmps4
  go_upto_block 0 with fail
  go_cut [5] from 15 to 34 (fun _ wx => wx = w ∧ ∀ s ∈ ss, s.size ≤ 4096)
  case first =>
    go_wp2_with fail
    go_loopg [5] m (fun g i wr => ∃ k : Nat, k + g = m ∧ i = .int .i64 k ∧ wr = w ∧ ∀ j, j < k → (ss.getD j ByteArray.empty).size ≤ 4096)
    case atStart => exact ⟨0, by omega, rfl, rfl, fun j hj => absurd hj (by omega)⟩
    case round =>
      obtain ⟨k, hk, rfl, rfl, hall⟩ := hrel
      have HK : Hid (k + gk = m) := hk
      have hkm : k ≤ m := by omega
      clear hk
      by_cases hlt : k < m
      · obtain ⟨b, off, rfl, hc⟩ := hstr.cell (by omega)
        have x0 := hc k hlt
        have hsz : (ss.getD k ByteArray.empty).size ≤ maxLen := by
          have h2 : k < ss.length := by omega
          simp [List.getD_eq_getElem?_getD, h2]
          exact hstr.size _ (List.getElem_mem h2)
        unfold maxLen at hsz
        have HA : Hid (∀ j, j < k → (ss.getD j ByteArray.empty).size ≤ 4096) := hall
        obtain ⟨sk, hsk⟩ : ∃ sk, sk = ss.getD k ByteArray.empty := ⟨_, rfl⟩
        rw [← hsk] at x0 hsz
        have HS : Hid (sk = ss.getD k ByteArray.empty) := hsk
        clear hsk hall hc
        by_cases hbig : sk.size ≤ 4096
        · have d0 : decide ((4096 : Int) < (sk.size : Int)) = false := by simp; omega
          go_wp2
          go_roundg (gk - 1)
          case measure => have := HK.out; omega
          case rel =>
            refine ⟨k + 1, by have := HK.out; omega, by go_num, rfl, fun j hj => ?_⟩
            by_cases e : j = k
            · subst e; rw [← HS.out]; exact hbig
            · exact HA.out j (by omega)
        · have d0 : decide ((4096 : Int) < (sk.size : Int)) = true := by simp; omega
          go_wp2
          go_ret
          exact ⟨rfl, Below.refl _ _⟩
      · go_wp2
        go_meet
        case rel =>
          refine ⟨rfl, fun s hs => ?_⟩
          obtain ⟨j, hj, rfl⟩ := List.mem_iff_getElem.1 hs
          have := hall j (by omega)
          simpa [List.getD_eq_getElem?_getD, hj] using this
  case rest =>
  obtain ⟨rfl, hss⟩ := hcut
  clear hsl t0 t1
  obtain ⟨i0, hi, hz0, hz1, hz2⟩ := info_parts Yba.info5
  go_wp2_with fail
  refine (copy_any a0 n0 c0 zs wc hn hbuf.len hbuf.bytes hbuf.none hbuf.cell).mono ?_
  rintro e w1 ⟨a', rfl, hnn, hcl, hB1⟩
  have hin : IsBuf w1 a' n0 n0 zs := ⟨hbuf.len, hbuf.bytes, fun h => ⟨hnn h, hnn h⟩, fun x hx j u hu => by
    obtain ⟨rfl, hh⟩ := hcl x hx
    rw [Addr.add_lit, Nat.zero_add]
    simpa [World.cell?, hh] using hu⟩
  have hs1 := hstr.below (Nat.le_refl _) hB1
  go_wp2_with fail
  refine (appStrs a' n0 zs a1 m c1 ss w1 hnn hbuf.len hin.cell hn hm hstr.len hss hs1.cell).mono ?_
  rintro e w2 ⟨v2, rfl, hown2, hB2⟩
  have hs2 := hs1.below (Nat.le_refl _) hB2
  have hin2 := hin.below (Nat.le_refl _) hB2
  have hbuf2 := (hbuf.below (Nat.le_refl _) hB1).below (Nat.le_refl _) hB2
  have hB12 : Below wc.heap.size wc w2 := hB1.trans (hB2.mono hB1.size)
  clear hcl hnn hin hs1 hB1 hB2
  have hbL : Bytes (zs ++ uvC m ++ strsC ss).length (zs ++ uvC m ++ strsC ss) := by
    have := bytes_allC zs ss (mem_of_bytes hbuf.len hbuf.bytes)
    rw [allC, hstr.len] at this
    exact this
  have hlL : (zs ++ uvC m ++ strsC ss).length ≤ 6000000 := by
    have := allC_len zs ss (by have := hbuf.len; omega) (by have := hstr.len; omega) hss
    rw [allC, hstr.len] at this
    exact this
  obtain ⟨L, hL⟩ : ∃ L, L = zs ++ uvC m ++ strsC ss := ⟨_, rfl⟩
  rw [← hL] at hown2 hbL hlL
  obtain ⟨nL, hnL⟩ : ∃ nL, nL = L.length := ⟨_, rfl⟩
  rw [← hnL] at hown2 hbL hlL
  have hn0 : n0 ≤ nL := by rw [hnL, hL]; have := hbuf.len; simp; omega
  have hu1 : 0 < (uvC m).length := by unfold uvC; split <;> simp
  have hpos : n0 + (uvC m).length ≤ nL := by rw [hnL, hL]; have := hbuf.len; simp; omega
  obtain ⟨ag, cg, rfl, rG, _, _, hcap⟩ := reads_own hown2
  obtain ⟨g, o, rfl, hcG⟩ := rG (by omega)
  have F0 : Reads w2 (some ⟨g, o, none⟩) n0 zs := fun _ => ⟨g, o, rfl, fun j hj => by
    rw [hcG j (by omega), hL, List.append_assoc, List.getElem?_append_left (by have := hbuf.len; omega)]⟩
  have F1 : ∀ j, j < (uvC m).length → L[n0 + j]? = (uvC m)[j]? := fun j hj => by
    rw [hL, List.append_assoc]
    have := at_mid zs (uvC m) (strsC ss) j hj
    rw [hbuf.len] at this
    exact this
  have HL : Hid (L = zs ++ uvC m ++ strsC ss) := hL
  have HN : Hid (nL = L.length) := hnL
  have t0 : decide ((nL : Int) < (n0 : Int)) = false := by simp; omega
  have rB := hbuf2.reads
  have hbz := hbuf.bytes
  clear hL hnL hown2 rG hi hz0 hz1 hz2 hin2 i0
  go_wp2_with fail
  refine (eq_true _ a0 n0 _ c0 zs w2 (by omega) hbz F0 rB).mono ?_
  rintro e w3 ⟨rfl, d, rfl⟩
  go_wp2_with fail
  refine (read_uv (some ⟨g, o, none⟩) nL cg L n0 m (w2.drewN d) (by omega) (fun h => ⟨g, o, rfl, fun j hj => hcG j hj⟩) (by omega) hpos F1).mono ?_
  rintro e w4 ⟨rfl, rfl⟩
  have t1 : ((m : Int) != (m : Int)) = false := by simp
  go_upto_block 2 with fail
  have hP0 : (zs ++ uvC m ++ strsC (ss.take 0)).length = n0 + (uvC m).length := by have := hbuf.len; simp [strsC]; omega
  have hPm : (zs ++ uvC m ++ strsC (ss.take m)).length = nL := by rw [List.take_of_length_le (by have := hstr.len; omega), HN.out, HL.out]
  have HP0 : Hid ((zs ++ uvC m ++ strsC (ss.take 0)).length = n0 + (uvC m).length) := hP0
  have HPm : Hid ((zs ++ uvC m ++ strsC (ss.take m)).length = nL) := hPm
  clear hP0 hPm F0 F1 rB hbz hbL t0
  go_cut [8, 10] from 35 to 108 (fun p _ wx => p = .int .i64 nL ∧ ∃ d, wx = w2.drewN d)
  case first =>
    go_wp2_with fail
    go_loopg [8, 10] m (fun g p i wr => ∃ k pk : Nat, k + g = m ∧ i = .int .i64 k ∧ p = .int .i64 pk ∧ pk = (zs ++ uvC m ++ strsC (ss.take k)).length ∧ ∃ d, wr = w2.drewN d)
    case atStart => exact ⟨0, n0 + (uvC m).length, by omega, rfl, by go_num, HP0.out.symm, d, rfl⟩
    case round =>
      obtain ⟨k, pk, hk, rfl, rfl, hpk, d, rfl⟩ := hrel
      have HK : Hid (k + gk = m) := hk
      have hkm : k ≤ m := by omega
      have HPK : Hid (pk = (zs ++ uvC m ++ strsC (ss.take k)).length) := hpk
      clear hk hpk
      by_cases hlt : k < m
      · obtain ⟨b, off, rfl, hcell⟩ := hs2.cell (by omega)
        have hc1 := hcell k hlt
        have hkl : k < ss.length := by have := hs2.len; omega
        have hsk : (ss.getD k ByteArray.empty).size ≤ 4096 := by
          simp [List.getD_eq_getElem?_getD, hkl]
          exact hss _ (List.getElem_mem hkl)
        have hsp : L = zs ++ uvC m ++ strsC (ss.take k) ++ (uvC (ss.getD k ByteArray.empty).size ++ (Lib.strCells (ss.getD k ByteArray.empty) ++ strsC (ss.drop (k + 1)))) := by
          rw [HL.out, strsC_split ss k hkl]; simp only [List.append_assoc]
        have hnx : (zs ++ uvC m ++ strsC (ss.take (k + 1))).length = pk + (uvC (ss.getD k ByteArray.empty).size).length + (ss.getD k ByteArray.empty).size := by
          have e : ss.take (k + 1) = ss.take k ++ [ss.getD k ByteArray.empty] := by rw [List.take_succ_eq_append_getElem hkl]; simp [hkl]
          rw [HPK.out, e, strsC_snoc]
          simp [strC, Lib.strCells_length]; omega
        have HNX : Hid ((zs ++ uvC m ++ strsC (ss.take (k + 1))).length = pk + (uvC (ss.getD k ByteArray.empty).size).length + (ss.getD k ByteArray.empty).size) := hnx
        clear hcell hnx
        generalize ss.getD k ByteArray.empty = sk at hc1 hsk hsp HNX
        obtain ⟨p1, hp1⟩ : ∃ p1, p1 = pk + (uvC sk.size).length := ⟨_, rfl⟩
        have hle : p1 + sk.size ≤ nL := by
          have h1 := HN.out
          rw [hsp] at h1
          have h2 := HPK.out
          simp only [List.length_append, Lib.strCells_length] at h1 h2
          omega
        have hrd : Calls Yba.prog 9 #[.slice (some ⟨g, o, none⟩) nL cg, .int .i64 pk] (w2.drewN d) fun e w' => e = .returned (.tuple #[.int .u64 sk.size, .int .i64 p1, .bool true]) ∧ w' = w2.drewN d := by
          rw [hp1]
          refine read_uv (some ⟨g, o, none⟩) nL cg L pk sk.size (w2.drewN d) (by omega) (fun h => ⟨g, o, rfl, fun j hj => hcG j hj⟩) (by omega) (by omega) (fun j hj => ?_)
          rw [hsp, HPK.out]
          exact at_mid _ _ _ j hj
        obtain ⟨ad, had, hcut⟩ := cut_run g o nL cg p1 sk.size hle hcap (by omega)
        have hcv : ∀ dd, (convert 22 9 (.slice (some ad) sk.size (cg - p1))).run Yba.prog (w2.drewN dd) = .ok (.string sk) (w2.drewN dd) := fun dd => by
          have hl : sk.data.toList.length = sk.size := by simp
          have := run_convert_bytes_back (P := Yba.prog) (w2.drewN dd) 22 9 5 ad (cg - p1) sk.data.toList Yba.underlying22 Yba.underlying5 Yba.underlying9 (fun j hj => by
            obtain rfl := had (by omega)
            rw [Addr.add_lit, Nat.add_assoc]
            show w2.cell? _ = _
            rw [hcG (p1 + j) (by omega), hsp, hp1]
            have e := at_mid (zs ++ uvC m ++ strsC (ss.take k) ++ uvC sk.size) (Lib.strCells sk) (strsC (ss.drop (k + 1))) j (by rw [Lib.strCells_length]; omega)
            have e2 : (zs ++ uvC m ++ strsC (ss.take k) ++ uvC sk.size).length = pk + (uvC sk.size).length := by rw [List.length_append, ← HPK.out]
            rw [e2, List.append_assoc] at e
            rw [e, Lib.strCells, List.getElem?_map, List.getElem?_eq_getElem hj]
            rfl)
          rw [hl] at this
          exact this
        have HP1 : Hid (p1 = pk + (uvC sk.size).length) := hp1
        clear hp1 hsp had
        have t2 : decide ((nL : Int) - (p1 : Int) < (sk.size : Int)) = false := by simp; omega
        go_wp2_with fail
        refine hrd.mono ?_
        rintro e w5 ⟨rfl, rfl⟩
        have i0 : (0 : Int) ≤ (k : Int) := by omega
        have i1 : (k : Int) < (m : Int) := by omega
        go_wp2_with fail
        go_quiet (fail)
        go_wp2
        go_roundg (gk - 1)
        case measure => have := HK.out; omega
        case rel => exact ⟨k + 1, p1 + sk.size, by have := HK.out; omega, by go_num, by go_num, by rw [HNX.out, HP1.out], _, rfl⟩
      · have hkm' : k = m := by omega
        subst hkm'
        go_wp2
        go_meet
        case rel => exact ⟨by rw [HPK.out, HPm.out], d, rfl⟩
  case rest =>
  obtain ⟨rfl, d, rfl⟩ := hcut
  go_wp2
  go_ret
  exact ⟨by simp, ⟨hB12.os, hB12.tape, hB12.output, hB12.size, hB12.block⟩⟩

set_option maxHeartbeats 400000 in
theorem round_great (a0 : Option Addr) (n0 c0 : Nat) (a1 : Option Addr) (m c1 : Nat) (w : World) (h0 : n0 ≤ maxLen) (h1 : m ≤ maxLen) (hg : 1024 < n0 ∨ 1024 < m) :
    Calls Yba.prog 4 #[.slice a0 n0 c0, .slice a1 m c1] w fun e w' => e = .returned (.bool true) ∧ Below w.heap.size w w' := by
  unfold maxLen at h0 h1
  by_cases hn : 1024 < n0
  · have t0 : decide ((1024 : Int) < (n0 : Int)) = true := by simp; omega
    go_enter Yba.func4, Yba.ntmps4
    go_wp2
    go_ret
    exact ⟨rfl, Below.refl _ _⟩
  · have t0 : decide ((1024 : Int) < (n0 : Int)) = false := by simp; omega
    have t1 : decide ((1024 : Int) < (m : Int)) = true := by simp; omega
    go_enter Yba.func4, Yba.ntmps4
    go_wp2
    go_ret
    exact ⟨rfl, Below.refl _ _⟩

end Go.Proofs.Ybulkcqiq
