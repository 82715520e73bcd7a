import Derived.Test.YbulkcqiqEq
import Derived.Deep.CutBlock
import Derived.Deep.CutRange
namespace Go.Proofs.Ybulkcqiq
open Go.RowKit

/-- What is known of buf: n elements, the cells zs. -/
structure IsBuf (w : World) (a : Option Addr) (n cap : Nat) (zs : List Value) : Prop where
  len : zs.length = n
  bytes : Bytes n zs
  none : a = none → n = 0 ∧ cap = 0
  cell : ∀ x, a = some x → ∀ j u, zs[j]? = some u → w.cell? (x.add j) = some u
/-- What is known of strs: m elements, the strings ss. -/
structure IsStrs (w : World) (a : Option Addr) (m : Nat) (ss : List ByteArray) : Prop where
  len : ss.length = m
  cell : 0 < m → ∃ b off, a = some ⟨b, off, none⟩ ∧ ∀ j, j < m → w.cell? ⟨b, off + j, none⟩ = some (.string (ss.getD j ByteArray.empty))
  size : ∀ s ∈ ss, s.size ≤ maxLen

theorem IsStrs.below {w w' : World} {a : Option Addr} {m : Nat} {ss : List ByteArray} (h : IsStrs w a m ss) {B : Nat} (hB : w.heap.size ≤ B) (hw : Below B w w') : IsStrs w' a m ss :=
  ⟨h.len, fun h0 => by
    obtain ⟨b, off, rfl, hc⟩ := h.cell h0
    exact ⟨b, off, rfl, fun j hj => (hw.cell (Nat.lt_of_lt_of_le (World.block_lt_of_cell? w _ (hc j hj)) hB)).trans (hc j hj)⟩, h.size⟩

theorem IsBuf.below {w w' : World} {a : Option Addr} {n cap : Nat} {zs : List Value} (h : IsBuf w a n cap zs) {B : Nat} (hB : w.heap.size ≤ B) (hw : Below B w w') : IsBuf w' a n cap zs :=
  ⟨h.len, h.bytes, h.none, fun x hx j u hu => (hw.cell (Nat.lt_of_lt_of_le (World.block_lt_of_cell? w _ (h.cell x hx j u hu)) hB)).trans (h.cell x hx j u hu)⟩

theorem IsBuf.reads {w : World} {a : Option Addr} {n cap : Nat} {zs : List Value} (h : IsBuf w a n cap zs) : Reads w a n zs := by
  intro h0
  cases a with
  | none => have := h.none rfl; omega
  | some x =>
    obtain ⟨z, hz⟩ := h.bytes 0 h0
    have h1 := h.cell x rfl 0 _ hz
    obtain ⟨b, off, spot⟩ := x
    have hspot : spot = Option.none := by simpa [Addr.add] using World.cell?_spot h1
    subst hspot
    refine ⟨b, off, rfl, fun j hj => ?_⟩
    obtain ⟨z', hz'⟩ := h.bytes j hj
    rw [hz', ← Addr.add_lit]
    exact h.cell _ rfl j _ hz'

theorem bytes_uvC (v : Nat) : ∀ u ∈ uvC v, ∃ z : Int, u = .int .u8 z := by
  unfold uvC
  split <;> simp
theorem bytes_strC (s : ByteArray) : ∀ u ∈ strC s, ∃ z : Int, u = .int .u8 z := by
  intro u hu
  simp only [strC, List.mem_append] at hu
  rcases hu with hu | hu
  · exact bytes_uvC _ u hu
  · simp only [Lib.strCells, List.mem_map] at hu
    obtain ⟨b, _, rfl⟩ := hu
    exact ⟨_, rfl⟩
theorem bytes_strsC (ss : List ByteArray) : ∀ u ∈ strsC ss, ∃ z : Int, u = .int .u8 z := by
  intro u hu
  simp only [strsC, List.mem_flatMap] at hu
  obtain ⟨s, _, hu⟩ := hu
  exact bytes_strC s u hu
theorem bytes_of_mem {n : Nat} {xs : List Value} (hl : xs.length = n) (h : ∀ u ∈ xs, ∃ z : Int, u = .int .u8 z) : Bytes n xs := by
  intro j hj
  obtain ⟨z, hz⟩ := h xs[j] (List.getElem_mem (by omega))
  exact ⟨z, by rw [List.getElem?_eq_getElem (by omega), hz]⟩
theorem mem_of_bytes {n : Nat} {xs : List Value} (hl : xs.length = n) (h : Bytes n xs) : ∀ u ∈ xs, ∃ z : Int, u = .int .u8 z := by
  intro u hu
  obtain ⟨j, hj, rfl⟩ := List.mem_iff_getElem.1 hu
  obtain ⟨z, hz⟩ := h j (by omega)
  rw [List.getElem?_eq_getElem hj] at hz
  exact ⟨z, Option.some.inj hz⟩

/-- The whole text: buf, the count, the strings. -/
def allC (zs : List Value) (ss : List ByteArray) : List Value := zs ++ uvC ss.length ++ strsC ss
theorem bytes_allC (zs : List Value) (ss : List ByteArray) (h : ∀ u ∈ zs, ∃ z : Int, u = .int .u8 z) : Bytes (allC zs ss).length (allC zs ss) := by
  refine bytes_of_mem rfl ?_
  intro u hu
  simp only [allC, List.mem_append] at hu
  rcases hu with (hu | hu) | hu
  · exact h u hu
  · exact bytes_uvC _ u hu
  · exact bytes_strsC _ u hu
theorem allC_len (zs : List Value) (ss : List ByteArray) (hz : zs.length ≤ 1024) (hs : ss.length ≤ 1024) (h : ∀ s ∈ ss, s.size ≤ 4096) : (allC zs ss).length ≤ 6000000 := by
  have a1 := strsC_len ss h
  have a2 := uvC_len ss.length
  simp only [allC, List.length_append]
  omega

set_option maxRecDepth 100000 in
set_option maxHeartbeats 800000 in
theorem exact_small (a0 : Option Addr) (n0 c0 : Nat) (zs : List Value) (a1 : Option Addr) (m c1 : Nat) (ss : List ByteArray) (w : World) (hn : n0 ≤ 1024) (hm : m ≤ 1024)
    (hbuf : IsBuf w a0 n0 c0 zs) (hstr : IsStrs w a1 m ss) :
    Calls Yba.prog 3 #[.slice a0 n0 c0, .slice a1 m c1] w fun e w' => e = .returned (.bool true) ∧ Below w.heap.size w w' := by
  have t0 : decide ((1024 : Int) < (n0 : Int)) = false := by simp; omega
  have t1 : decide ((1024 : Int) < (m : Int)) = false := by simp; omega
  have hsl := hstr.len
  go_enter Yba.func3, Yba.ntmps3
  go_upto_block 0 with fail
  go_cut [5] from 10 to 29 (fun _ wx => wx = w ∧ ∀ s ∈ ss, s.size ≤ 4096)
  case first =>
    go_wp2_with fail
    go_loopg [5] m (fun g i wr => ∃ k : Nat, k + g = m ∧ i = .int .i64 k ∧ wr = w ∧ ∀ j, j < k → (ss.getD j ByteArray.empty).size ≤ 4096)
    case atStart => exact ⟨0, by omega, rfl, rfl, fun j hj => absurd hj (by omega)⟩
    case round =>
      obtain ⟨k, hk, rfl, rfl, hall⟩ := hrel
      have HK : Hid (k + gk = m) := hk
      have hkm : k ≤ m := by omega
      clear hk
      by_cases hlt : k < m
      · obtain ⟨b, off, rfl, hc⟩ := hstr.cell (by omega)
        have x0 := hc k hlt
        have hsz : (ss.getD k ByteArray.empty).size ≤ maxLen := by
          have h2 : k < ss.length := by omega
          simp [List.getD_eq_getElem?_getD, h2]
          exact hstr.size _ (List.getElem_mem h2)
        unfold maxLen at hsz
        have HA : Hid (∀ j, j < k → (ss.getD j ByteArray.empty).size ≤ 4096) := hall
        obtain ⟨sk, hsk⟩ : ∃ sk, sk = ss.getD k ByteArray.empty := ⟨_, rfl⟩
        rw [← hsk] at x0 hsz
        have HS : Hid (sk = ss.getD k ByteArray.empty) := hsk
        clear hsk hall hc
        by_cases hbig : sk.size ≤ 4096
        · have d0 : decide ((4096 : Int) < (sk.size : Int)) = false := by simp; omega
          go_wp2
          go_roundg (gk - 1)
          case measure => have := HK.out; omega
          case rel =>
            refine ⟨k + 1, by have := HK.out; omega, by go_num, rfl, fun j hj => ?_⟩
            by_cases e : j = k
            · subst e; rw [← HS.out]; exact hbig
            · exact HA.out j (by omega)
        · have d0 : decide ((4096 : Int) < (sk.size : Int)) = true := by simp; omega
          go_wp2
          go_ret
          exact ⟨rfl, Below.refl _ _⟩
      · go_wp2
        go_meet
        case rel =>
          refine ⟨rfl, fun s hs => ?_⟩
          obtain ⟨j, hj, rfl⟩ := List.mem_iff_getElem.1 hs
          have := hall j (by omega)
          simpa [List.getD_eq_getElem?_getD, hj] using this
  case rest =>
  obtain ⟨rfl, hss⟩ := hcut
  clear hsl t0 t1
  obtain ⟨i0, hi, hz0, hz1, hz2⟩ := info_parts Yba.info5
  go_wp2_with fail
  refine (copy_any a0 n0 c0 zs wc hn hbuf.len hbuf.bytes hbuf.none hbuf.cell).mono ?_
  rintro e w1 ⟨a', rfl, hnn, hcl, hB1⟩
  have hin : IsBuf w1 a' n0 n0 zs := ⟨hbuf.len, hbuf.bytes, fun h => ⟨hnn h, hnn h⟩, fun x hx j u hu => by
    obtain ⟨rfl, hh⟩ := hcl x hx
    rw [Addr.add_lit, Nat.zero_add]
    simpa [World.cell?, hh] using hu⟩
  have hs1 := hstr.below (Nat.le_refl _) hB1
  go_wp2_with fail
  refine (appStrs a' n0 zs a1 m c1 ss w1 hnn hbuf.len hin.cell hn hm hstr.len hss hs1.cell).mono ?_
  rintro e w2 ⟨v2, rfl, hown2, hB2⟩
  have hs2 := hs1.below (Nat.le_refl _) hB2
  have hin2 := hin.below (Nat.le_refl _) hB2
  have hbuf2 := (hbuf.below (Nat.le_refl _) hB1).below (Nat.le_refl _) hB2
  have hB12 : Below wc.heap.size wc w2 := hB1.trans (hB2.mono hB1.size)
  clear hcl hnn hin hs1 hB1 hB2
  go_upto_region 11 with fail
  go_cut [8] from 30 to 37 (fun v wx => wx.ownsRow w2.heap.size 5 1 v n0 zs ∧ Below w2.heap.size w2 wx)
  case first =>
    cases a0 with
    | none =>
      obtain ⟨rfl, rfl⟩ := hbuf.none rfl
      have hz : zs = [] := List.eq_nil_of_length_eq_zero hbuf.len
      subst hz
      go_wp2_with (at_builtin; refine wpList_append_own_none rfl _ _ 22 rfl w2.heap.size 5 i0 1 Yba.underlying22 hi _ 0 [] rfl (World.ownsRow_nil _ _ _ _) rfl ?_)
      go_meet
      case rel => exact ⟨World.ownsRow_nil _ _ _ _, Below.refl _ _⟩
    | some x =>
      have h1c : ∀ u ∈ zs, u.oneCell' = true := fun u hu => by obtain ⟨z, rfl⟩ := mem_of_bytes hbuf.len hbuf.bytes u hu; rfl
      have hlz : zs.length = n0 * 1 := by rw [hbuf.len]; omega
      have hcz := hbuf2.cell x rfl
      go_wp2_with (at_builtin; refine wpList_append_own _ rfl _ _ 22 rfl w2.heap.size 5 i0 (.int .u8 0) 1 1 Yba.underlying22 hi hz0 hz1 hz2 rfl (by decide) _ 0 [] rfl (World.ownsRow_nil _ _ _ _) x n0 c0 zs rfl hlz hcz h1c (by unfold maxLen; omega) (by omega) (Nat.le_refl _) ?_; intro v3 w3 hown3 hgrow3 _)
      go_meet
      case rel =>
        refine ⟨by simpa using hown3, (Below.refl _ _).grown hgrow3 (Nat.le_refl _) (fun k hk => by cases hk)⟩
  case rest =>
  obtain ⟨hown3, hB3⟩ := hcut
  go_wp2_with fail
  refine (uvB7 w2.heap.size u8 n0 zs m wc hown3 hB3.size (by omega) (by omega)).mono ?_
  rintro e w4 ⟨v4, rfl, hown4, hB4⟩
  have hB24 : Below w2.heap.size w2 w4 := hB3.trans hB4
  have hlz := hbuf.len
  clear hown3 hB3 hB4
  go_upto_block 2 with fail
  go_cut [8, 9] from 38 to 62 (fun v _ wx => wx.ownsRow w2.heap.size 5 1 v (zs ++ uvC m ++ strsC ss).length (zs ++ uvC m ++ strsC ss) ∧ Below w2.heap.size w2 wx)
  case first =>
    go_wp2_with fail
    go_loopg [8, 9] m (fun g v i wr => ∃ k : Nat, k + g = m ∧ i = .int .i64 k ∧ wr.ownsRow w2.heap.size 5 1 v (zs ++ uvC m ++ strsC (ss.take k)).length (zs ++ uvC m ++ strsC (ss.take k)) ∧ Below w2.heap.size w2 wr)
    case atStart =>
      refine ⟨0, by omega, rfl, ?_, hB24⟩
      have e1 : (zs ++ uvC m ++ strsC (ss.take 0)) = zs ++ uvC m := by simp [strsC]
      rw [e1, List.length_append, hlz]
      exact hown4
    case round =>
      obtain ⟨k, hk, rfl, hown, hBr⟩ := hrel
      have HK : Hid (k + gk = m) := hk
      have hkm : k ≤ m := by omega
      have HL : Hid (zs.length = n0) := hlz
      clear hk hlz
      have hlen : (zs ++ uvC m ++ strsC (ss.take k)).length ≤ 6000000 := by
        have a1 := strsC_len (ss.take k) (fun s hs => hss s (List.mem_of_mem_take hs))
        have a2 := uvC_len m
        have a3 := hs2.len
        have a4 := HL.out
        simp only [List.length_append, List.length_take] at a1 ⊢
        omega
      by_cases hlt : k < m
      · obtain ⟨b, off, rfl, hcell⟩ := hs2.cell (by omega)
        have hc1 : wr.cell? ⟨b, off + k, none⟩ = some (.string (ss.getD k ByteArray.empty)) := (hBr.cell (World.block_lt_of_cell? w2 _ (hcell k hlt))).trans (hcell k hlt)
        have hkl : k < ss.length := by have := hs2.len; omega
        have hsk : (ss.getD k ByteArray.empty).size ≤ 4096 := by
          simp [List.getD_eq_getElem?_getD, hkl]
          exact hss _ (List.getElem_mem hkl)
        have HS : Hid (ss.take (k + 1) = ss.take k ++ [ss.getD k ByteArray.empty]) := by
          show _ = _
          rw [List.take_succ_eq_append_getElem hkl]
          simp [hkl]
        clear hcell
        generalize ss.getD k ByteArray.empty = sk at hc1 hsk HS
        go_wp2_with fail
        refine (uvB7 w2.heap.size u8 _ _ sk.size wr hown hBr.size (by omega) (by omega)).mono ?_
        rintro e w5 ⟨v5, rfl, hown5, hB5⟩
        have hl5 := uvC_len sk.size
        have hs5 : w2.heap.size ≤ w5.heap.size := Nat.le_trans hBr.size hB5.size
        have hc5 : w5.cell? ⟨b, off + k, none⟩ = some (.string sk) := ((hBr.trans hB5).cell (World.block_lt_of_cell? w2 _ (((hBr.cell (p := ⟨b, off + k, none⟩) (by
          obtain ⟨b', off', hb', hcell⟩ := hs2.cell (by omega)
          cases hb'
          exact World.block_lt_of_cell? w2 _ (hcell k hlt))).symm.trans hc1)))).trans ((hBr.cell (p := ⟨b, off + k, none⟩) (by
          obtain ⟨b', off', hb', hcell⟩ := hs2.cell (by omega)
          cases hb'
          exact World.block_lt_of_cell? w2 _ (hcell k hlt))).symm.trans hc1)
        go_wp2_with (at_builtin; refine Lib.wpList_append_own_string _ rfl _ _ 22 9 rfl w2.heap.size 5 i0 Yba.underlying22 Yba.underlying9 hi hz0 hz1 hz2 v5 _ _ rfl hown5 sk rfl (by unfold maxLen; omega) (by omega) hs5 ?_; intro v6 w6 hown6 hgrow6 _)
        go_roundg (gk - 1)
        case measure => have := HK.out; omega
        case rel =>
          refine ⟨k + 1, by have := HK.out; omega, by go_num, ?_, hBr.trans (hB5.trans ((Below.refl _ _).grown hgrow6 hs5 (fun k hk => (hown5.lt k hk).1)))⟩
          have e1 : zs ++ uvC m ++ strsC (ss.take (k + 1)) = zs ++ uvC m ++ strsC (ss.take k) ++ uvC sk.size ++ Lib.strCells sk := by rw [HS.out, strsC_snoc]; simp [strC]
          have e2 : (zs ++ uvC m ++ strsC (ss.take k) ++ uvC sk.size ++ Lib.strCells sk).length = (zs ++ uvC m ++ strsC (ss.take k)).length + (uvC sk.size).length + sk.size := by simp [Lib.strCells_length]; omega
          rw [e1, e2]
          exact hown6
      · have hkm' : k = m := by omega
        subst hkm'
        go_wp2
        go_meet
        case rel =>
          rw [List.take_of_length_le (by have := hs2.len; omega)] at hown
          exact ⟨hown, hBr⟩
  case rest =>
  obtain ⟨hownW, hBW⟩ := hcut
  have hbL : Bytes (zs ++ uvC m ++ strsC ss).length (zs ++ uvC m ++ strsC ss) := by
    have := bytes_allC zs ss (mem_of_bytes hbuf.len hbuf.bytes)
    rw [allC, hstr.len] at this
    exact this
  have hlL : (zs ++ uvC m ++ strsC ss).length ≤ 6000000 := by
    have := allC_len zs ss (by omega) (by have := hstr.len; omega) hss
    rw [allC, hstr.len] at this
    exact this
  have rI := (hin2.below (Nat.le_refl _) hBW).reads
  have rB := (hbuf2.below (Nat.le_refl _) hBW).reads
  have hbz := hbuf.bytes
  clear hown4 hB24 hlz hs2 hin2 hbuf2 hstr hss
  generalize zs ++ uvC m ++ strsC ss = L at hown2 hownW hbL hlL
  generalize hLL : L.length = nL at hown2 hownW hbL hlL
  clear hLL
  obtain ⟨ag, cg, rfl, rG, _⟩ := reads_own hown2
  obtain ⟨aw, cw, rfl, rW, _⟩ := reads_own hownW
  have rG' := rG.below hbL (Nat.le_refl _) hBW
  have hBend : Below _ _ wc := hB12.trans (hBW.mono hB12.size)
  clear hown2 hownW hB12 hbuf
  go_wp2_with fail
  refine (eq_true ag aw nL cg cw L wc (by omega) hbL rG' rW).mono ?_
  rintro e w5 ⟨rfl, d, rfl⟩
  go_wp2_with fail
  refine (eq_true a' a0 n0 n0 c0 zs (wc.drewN d) (by omega) hbz rI rB).mono ?_
  rintro e w6 ⟨rfl, d2, rfl⟩
  go_wp2
  go_ret
  exact ⟨rfl, ⟨hBend.os, hBend.tape, hBend.output, hBend.size, hBend.block⟩⟩

set_option maxHeartbeats 400000 in
theorem exact_great (a0 : Option Addr) (n0 c0 : Nat) (a1 : Option Addr) (m c1 : Nat) (w : World) (h0 : n0 ≤ maxLen) (h1 : m ≤ maxLen) (hg : 1024 < n0 ∨ 1024 < m) :
    Calls Yba.prog 3 #[.slice a0 n0 c0, .slice a1 m c1] w fun e w' => e = .returned (.bool true) ∧ Below w.heap.size w w' := by
  unfold maxLen at h0 h1
  by_cases hn : 1024 < n0
  · have t0 : decide ((1024 : Int) < (n0 : Int)) = true := by simp; omega
    go_enter Yba.func3, Yba.ntmps3
    go_wp2
    go_ret
    exact ⟨rfl, Below.refl _ _⟩
  · have t0 : decide ((1024 : Int) < (n0 : Int)) = false := by simp; omega
    have t1 : decide ((1024 : Int) < (m : Int)) = true := by simp; omega
    go_enter Yba.func3, Yba.ntmps3
    go_wp2
    go_ret
    exact ⟨rfl, Below.refl _ _⟩

end Go.Proofs.Ybulkcqiq
