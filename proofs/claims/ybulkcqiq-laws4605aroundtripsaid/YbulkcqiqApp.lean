import Derived.Test.YbulkcqiqUv
import Derived.Deep.LoopGhost
namespace Go.Proofs.Ybulkcqiq
open Go.RowKit

/-- What AppendString appends for one string. -/
def strC (s : ByteArray) : List Value := uvC s.size ++ Lib.strCells s
/-- What AppendStrings appends. -/
def strsC (ss : List ByteArray) : List Value := ss.flatMap strC

theorem uvC_len (v : Nat) : (uvC v).length ≤ 2 := by unfold uvC; split <;> simp
theorem strC_len (s : ByteArray) : (strC s).length ≤ s.size + 2 := by
  have := uvC_len s.size
  simp [strC, Lib.strCells_length]; omega
theorem strsC_len (ss : List ByteArray) (h : ∀ s ∈ ss, s.size ≤ 4096) : (strsC ss).length ≤ ss.length * 4098 := by
  induction ss with
  | nil => simp [strsC]
  | cons s ss ih =>
    have h1 := strC_len s
    have h2 := h s (by simp)
    have h3 := ih (fun t ht => h t (by simp [ht]))
    simp [strsC] at h3 ⊢
    omega
theorem strsC_snoc (ss : List ByteArray) (s : ByteArray) : strsC (ss ++ [s]) = strsC ss ++ strC s := by simp [strsC]

set_option maxRecDepth 100000 in
set_option maxHeartbeats 400000 in
theorem appStr (B : Nat) (sv : Value) (n : Nat) (xs : List Value) (s : ByteArray) (w : World) (hown : w.ownsRow B 5 1 sv n xs) (hB : B ≤ w.heap.size) (hn : n ≤ 50000000) (hs : s.size ≤ 4096) :
    Calls Yba.prog 11 #[sv, .string s] w fun e w' => ∃ v', e = .returned v' ∧ w'.ownsRow B 5 1 v' (n + (strC s).length) (xs ++ strC s) ∧ Below B w w' := by
  obtain ⟨i0, hi, hz0, hz1, hz2⟩ := info_parts Yba.info5
  go_enter Yba.func11, Yba.ntmps11
  go_wp2_with fail
  refine (uvB10 B sv n xs s.size w hown hB (by omega) (by omega)).mono ?_
  rintro e w1 ⟨v1, rfl, hown1, hB1⟩
  have hl := uvC_len s.size
  have hs1 : B ≤ w1.heap.size := Nat.le_trans hB hB1.size
  go_wp2_with (at_builtin; refine Lib.wpList_append_own_string _ rfl _ _ 22 9 rfl B 5 i0 Yba.underlying22 Yba.underlying9 hi hz0 hz1 hz2 v1 _ _ rfl hown1 s rfl (by unfold maxLen; omega) (by omega) hs1 ?_; intro v2 w2 hown2 hgrow2 _)
  go_ret
  refine ⟨_, rfl, ?_, hB1.trans ((Below.refl _ _).grown hgrow2 hs1 (fun k hk => (hown1.lt k hk).1))⟩
  have e1 : n + (strC s).length = n + (uvC s.size).length + s.size := by simp [strC, Lib.strCells_length]; omega
  have e2 : xs ++ strC s = xs ++ uvC s.size ++ Lib.strCells s := by simp [strC]
  rw [e1, e2]
  exact hown2

set_option maxRecDepth 100000 in
set_option maxHeartbeats 400000 in
theorem appStrs (ao : Option Addr) (n : Nat) (xs : List Value) (so : Option Addr) (m cap : Nat) (ss : List ByteArray) (w : World)
    (hnone : ao = none → n = 0) (hl : xs.length = n) (hc : ∀ b, ao = some b → ∀ j u, xs[j]? = some u → w.cell? (b.add j) = some u) (hn : n ≤ 1024)
    (hm : m ≤ 1024) (hsl : ss.length = m) (hss : ∀ s ∈ ss, s.size ≤ 4096) (hsc : 0 < m → ∃ b off, so = some ⟨b, off, none⟩ ∧ ∀ j, j < m → w.cell? ⟨b, off + j, none⟩ = some (.string (ss.getD j ByteArray.empty))) :
    Calls Yba.prog 6 #[.slice ao n n, .slice so m cap] w fun e w' => ∃ v', e = .returned v' ∧ w'.ownsRow w.heap.size 5 1 v' (xs ++ uvC m ++ strsC ss).length (xs ++ uvC m ++ strsC ss) ∧ Below w.heap.size w w' := by
  go_enter Yba.func6, Yba.ntmps6
  go_wp2_with fail
  refine (uvA10 ao n xs m w hnone hl hc (by omega) (by omega)).mono ?_
  rintro e w1 ⟨v1, rfl, hown1, hB1⟩
  go_wp2_with fail
  go_loopg [0, 14] m (fun g v i wr => ∃ k : Nat, k + g = m ∧ i = .int .i64 k ∧ wr.ownsRow w.heap.size 5 1 v (xs ++ uvC m ++ strsC (ss.take k)).length (xs ++ uvC m ++ strsC (ss.take k)) ∧ Below w.heap.size w wr)
  case atStart =>
    refine ⟨0, by omega, rfl, ?_, hB1⟩
    have e1 : (xs ++ uvC m ++ strsC (ss.take 0)) = xs ++ uvC m := by simp [strsC]
    rw [e1, List.length_append, hl]
    exact hown1
  case round =>
    obtain ⟨k, hk, rfl, hown, hBr⟩ := hrel
    have HK : Hid (k + gk = m) := hk
    have hkm : k ≤ m := by omega
    clear hk
    have hlen : (xs ++ uvC m ++ strsC (ss.take k)).length ≤ 6000000 := by
      have a1 := strsC_len (ss.take k) (fun s hs => hss s (List.mem_of_mem_take hs))
      have a2 := uvC_len m
      simp only [List.length_append, List.length_take] at a1 ⊢
      omega
    by_cases hlt : k < m
    · obtain ⟨b, off, rfl, hcell⟩ := hsc (by omega)
      have hc1 : wr.cell? ⟨b, off + k, none⟩ = some (.string (ss.getD k ByteArray.empty)) := (hBr.cell (World.block_lt_of_cell? w _ (hcell k hlt))).trans (hcell k hlt)
      have hsk : (ss.getD k ByteArray.empty).size ≤ 4096 := by
        have : k < ss.length := by omega
        simp [List.getD_eq_getElem?_getD, this]
        exact hss _ (List.getElem_mem this)
      have HS : Hid (ss.take (k + 1) = ss.take k ++ [ss.getD k ByteArray.empty]) := by
        have : k < ss.length := by omega
        show _ = _
        rw [List.take_succ_eq_append_getElem this]
        simp [this]
      clear hcell
      generalize ss.getD k ByteArray.empty = sk at hc1 hsk HS
      go_wp2_with fail
      refine (appStr w.heap.size u0 _ _ sk wr hown (Nat.le_trans (Nat.le_refl _) hBr.size) (by omega) hsk).mono ?_
      rintro e w2 ⟨v2, rfl, hown2, hB2⟩
      go_wp2
      go_roundg (gk - 1)
      case measure => have := HK.out; omega
      case rel =>
        refine ⟨k + 1, by have := HK.out; omega, by go_num, ?_, hBr.trans hB2⟩
        have e1 : xs ++ uvC m ++ strsC (ss.take (k + 1)) = xs ++ uvC m ++ strsC (ss.take k) ++ strC sk := by rw [HS.out, strsC_snoc]; simp
        rw [e1, List.length_append]
        exact hown2
    · have hkm' : k = m := by omega
      subst hkm'
      go_wp2
      go_ret
      rw [List.take_of_length_le (by omega)] at hown
      exact ⟨_, rfl, hown, hBr⟩

end Go.Proofs.Ybulkcqiq
