import Derived.Test.YbulkcqiqRows
import Derived.WalkKit
import Derived.WalkSpells
import Derived.WalkLawsBesides
import Derived.Lib.AppendStr
import Derived.Laws.AppendOwnNone
namespace Go.Proofs.Ybulkcqiq
open Go.RowKit

theorem Yba.info5 : (Yba.prog.info? 5).map (fun i => (i.zero, i.size, i.bytes)) = some (some (.int .u8 0), 1, 1) := by kernel_rfl

/-- The bytes of an unsigned varint below 2^14, as cells. -/
def uvC (v : Nat) : List Value := if v < 128 then [.int .u8 v] else [.int .u8 ((v % 128 + 128 : Nat) : Int), .int .u8 ((v / 128 : Nat) : Int)]

theorem or128 : ∀ m : Fin 256, bits BinOp.or IntKind.u8 ((m.val : Nat) : Int) 128 = ((m.val % 128 + 128 : Nat) : Int) := by decide +kernel

theorem hor_of (v : Nat) : bits BinOp.or IntKind.u8 ((v : Int) % 256) 128 = ((v % 128 + 128 : Nat) : Int) := by
  have h := or128 ⟨v % 256, Nat.mod_lt _ (by omega)⟩
  simp only at h
  have e1 : ((v % 256 : Nat) : Int) = (v : Int) % 256 := by omega
  have e2 : v % 256 % 128 = v % 128 := by omega
  rw [e1, e2] at h
  exact h

/-- What is owned from B on is owned from every smaller number on. -/
theorem own_mono {w : World} {B B' : Nat} {e : TypeId} {size : Nat} {v : Value} {n : Nat} {xs : List Value} (h : w.ownsRow B e size v n xs) (hB : B' ≤ B) : w.ownsRow B' e size v n xs := by
  refine ⟨h.1, ?_⟩
  rcases h.2 with h2 | ⟨g, cap, cur, hv, hg, r⟩
  · exact .inl h2
  · exact .inr ⟨g, cap, cur, hv, by omega, r⟩

set_option maxRecDepth 100000 in
set_option maxHeartbeats 400000 in
/-- Onto a row that the caller's call owns. -/
theorem uvB7 (B : Nat) (sv : Value) (n : Nat) (xs : List Value) (v : Nat) (w : World) (hown : w.ownsRow B 5 1 sv n xs) (hB : B ≤ w.heap.size) (hn : n ≤ 100000000) (hv : v < 16384) :
    Calls Yba.prog 7 #[sv, .int .u64 v] w fun e w' => ∃ v', e = .returned v' ∧ w'.ownsRow B 5 1 v' (n + (uvC v).length) (xs ++ uvC v) ∧ Below B w w' := by
  obtain ⟨i0, hi, hz0, hz1, hz2⟩ := info_parts Yba.info5
  by_cases h : v < 128
  · have hm : (v : Int) % 256 = v := by omega
    go_enter Yba.func7, Yba.ntmps7
    go_wp2_with fail
    refine wp_loop_rounds 1 ?_
    rw [rounds_succ]
    go_wp2_with (at_builtin; refine wpList_append_own _ rfl _ _ 22 rfl B 5 i0 (.int .u8 0) 1 1 Yba.underlying22 hi hz0 hz1 hz2 rfl (by decide) sv n xs rfl (hown.alloc _) ⟨w.heap.size, 0, none⟩ 1 1 [.int .u8 v] rfl rfl (cell_one_new _ _ _) (by simp [Value.oneCell']) (by unfold maxLen; omega) (by omega) (by simp; omega) ?_; intro v' w1 hown1 hgrow1 _)
    go_ret
    have e : uvC v = [.int .u8 v] := if_pos h
    rw [e]
    exact ⟨_, rfl, hown1, ((Below.refl _ _).alloc hB _).grown hgrow1 (by simp; omega) (fun k hk => (hown.lt k hk).1)⟩
  · have hor := hor_of v
    have hm : (v : Int) / 128 % 256 = (v : Int) / 128 := by omega
    go_enter Yba.func7, Yba.ntmps7
    go_wp2_with fail
    refine wp_loop_rounds 2 ?_
    rw [rounds_succ]
    go_wp2_with (at_builtin; refine wpList_append_own _ rfl _ _ 22 rfl B 5 i0 (.int .u8 0) 1 1 Yba.underlying22 hi hz0 hz1 hz2 rfl (by decide) sv n xs rfl (hown.alloc _) ⟨w.heap.size, 0, none⟩ 1 1 [.int .u8 ((v % 128 + 128 : Nat) : Int)] rfl rfl (cell_one_new _ _ _) (by simp [Value.oneCell']) (by unfold maxLen; omega) (by omega) (by simp; omega) ?_; intro v' w1 hown1 hgrow1 _)
    have hB1 : Below B w w1 := ((Below.refl _ _).alloc hB _).grown hgrow1 (by simp; omega) (fun k hk => (hown.lt k hk).1)
    have hs1 : B ≤ w1.heap.size := Nat.le_trans hB hB1.size
    clear hgrow1
    rw [rounds_succ]
    go_wp2_with (at_builtin; refine wpList_append_own _ rfl _ _ 22 rfl B 5 i0 (.int .u8 0) 1 1 Yba.underlying22 hi hz0 hz1 hz2 rfl (by decide) v' (n + 1) _ rfl (hown1.alloc _) ⟨w1.heap.size, 0, none⟩ 1 1 [.int .u8 ((v / 128 : Nat) : Int)] rfl rfl (cell_one_new _ _ _) (by simp [Value.oneCell']) (by unfold maxLen; omega) (by omega) (by simp; omega) ?_; intro v2 w2 hown2 hgrow2 _)
    go_ret
    have e : uvC v = [.int .u8 ((v % 128 + 128 : Nat) : Int), .int .u8 ((v / 128 : Nat) : Int)] := if_neg h
    rw [e]
    refine ⟨_, rfl, ?_, hB1.trans (((Below.refl _ _).alloc hs1 _).grown hgrow2 (by simp; omega) (fun k hk => (hown1.lt k hk).1))⟩
    simpa using hown2

set_option maxRecDepth 100000 in
set_option maxHeartbeats 400000 in
/-- Onto a row that the caller's call owns. -/
theorem uvB10 (B : Nat) (sv : Value) (n : Nat) (xs : List Value) (v : Nat) (w : World) (hown : w.ownsRow B 5 1 sv n xs) (hB : B ≤ w.heap.size) (hn : n ≤ 100000000) (hv : v < 16384) :
    Calls Yba.prog 10 #[sv, .int .u64 v] w fun e w' => ∃ v', e = .returned v' ∧ w'.ownsRow B 5 1 v' (n + (uvC v).length) (xs ++ uvC v) ∧ Below B w w' := by
  obtain ⟨i0, hi, hz0, hz1, hz2⟩ := info_parts Yba.info5
  by_cases h : v < 128
  · have hm : (v : Int) % 256 = v := by omega
    go_enter Yba.func10, Yba.ntmps10
    go_wp2_with fail
    refine wp_loop_rounds 1 ?_
    rw [rounds_succ]
    go_wp2_with (at_builtin; refine wpList_append_own _ rfl _ _ 22 rfl B 5 i0 (.int .u8 0) 1 1 Yba.underlying22 hi hz0 hz1 hz2 rfl (by decide) sv n xs rfl (hown.alloc _) ⟨w.heap.size, 0, none⟩ 1 1 [.int .u8 v] rfl rfl (cell_one_new _ _ _) (by simp [Value.oneCell']) (by unfold maxLen; omega) (by omega) (by simp; omega) ?_; intro v' w1 hown1 hgrow1 _)
    go_ret
    have e : uvC v = [.int .u8 v] := if_pos h
    rw [e]
    exact ⟨_, rfl, hown1, ((Below.refl _ _).alloc hB _).grown hgrow1 (by simp; omega) (fun k hk => (hown.lt k hk).1)⟩
  · have hor := hor_of v
    have hm : (v : Int) / 128 % 256 = (v : Int) / 128 := by omega
    go_enter Yba.func10, Yba.ntmps10
    go_wp2_with fail
    refine wp_loop_rounds 2 ?_
    rw [rounds_succ]
    go_wp2_with (at_builtin; refine wpList_append_own _ rfl _ _ 22 rfl B 5 i0 (.int .u8 0) 1 1 Yba.underlying22 hi hz0 hz1 hz2 rfl (by decide) sv n xs rfl (hown.alloc _) ⟨w.heap.size, 0, none⟩ 1 1 [.int .u8 ((v % 128 + 128 : Nat) : Int)] rfl rfl (cell_one_new _ _ _) (by simp [Value.oneCell']) (by unfold maxLen; omega) (by omega) (by simp; omega) ?_; intro v' w1 hown1 hgrow1 _)
    have hB1 : Below B w w1 := ((Below.refl _ _).alloc hB _).grown hgrow1 (by simp; omega) (fun k hk => (hown.lt k hk).1)
    have hs1 : B ≤ w1.heap.size := Nat.le_trans hB hB1.size
    clear hgrow1
    rw [rounds_succ]
    go_wp2_with (at_builtin; refine wpList_append_own _ rfl _ _ 22 rfl B 5 i0 (.int .u8 0) 1 1 Yba.underlying22 hi hz0 hz1 hz2 rfl (by decide) v' (n + 1) _ rfl (hown1.alloc _) ⟨w1.heap.size, 0, none⟩ 1 1 [.int .u8 ((v / 128 : Nat) : Int)] rfl rfl (cell_one_new _ _ _) (by simp [Value.oneCell']) (by unfold maxLen; omega) (by omega) (by simp; omega) ?_; intro v2 w2 hown2 hgrow2 _)
    go_ret
    have e : uvC v = [.int .u8 ((v % 128 + 128 : Nat) : Int), .int .u8 ((v / 128 : Nat) : Int)] := if_neg h
    rw [e]
    refine ⟨_, rfl, ?_, hB1.trans (((Below.refl _ _).alloc hs1 _).grown hgrow2 (by simp; omega) (fun k hk => (hown1.lt k hk).1))⟩
    simpa using hown2

set_option maxRecDepth 100000 in
set_option maxHeartbeats 400000 in
/-- Onto a slice without room (nil; or its capacity is its length), whoever owns it: the result lies in new memory. -/
theorem uvA10 (ao : Option Addr) (n : Nat) (xs : List Value) (v : Nat) (w : World) (hnone : ao = none → n = 0) (hl : xs.length = n) (hc : ∀ b, ao = some b → ∀ j u, xs[j]? = some u → w.cell? (b.add j) = some u) (hn : n ≤ 100000000) (hv : v < 16384) :
    Calls Yba.prog 10 #[.slice ao n n, .int .u64 v] w fun e w' => ∃ v', e = .returned v' ∧ w'.ownsRow w.heap.size 5 1 v' (n + (uvC v).length) (xs ++ uvC v) ∧ Below w.heap.size w w' := by
  obtain ⟨i0, hi, hz0, hz1, hz2⟩ := info_parts Yba.info5
  have hc1 : ∀ (o : Obj) b, ao = some b → ∀ j u, xs[j]? = some u → (w.alloc o).cell? (b.add j) = some u := fun o b hb j u hu =>
    (((Below.refl _ w).alloc (Nat.le_refl _) o).cell (World.block_lt_of_cell? w _ (hc b hb j u hu))).trans (hc b hb j u hu)
  by_cases h : v < 128
  · have hm : (v : Int) % 256 = v := by omega
    go_enter Yba.func10, Yba.ntmps10
    go_wp2_with fail
    refine wp_loop_rounds 1 ?_
    rw [rounds_succ]
    go_wp2_with (at_builtin; refine wpList_append_grows _ rfl _ _ 22 rfl 5 i0 (.int .u8 0) 1 1 Yba.underlying22 hi hz0 hz1 hz2 rfl (by decide) ao n n xs rfl (fun e => ⟨hnone e, hnone e⟩) (by omega) (hc1 _) ⟨w.heap.size, 0, none⟩ 1 1 [.int .u8 v] rfl rfl (cell_one_new _ _ _) (by simp [Value.oneCell']) (by omega) (by unfold maxLen; omega) (by omega) ?_; intro v' w1 hown1 hgrow1)
    go_ret
    have e : uvC v = [.int .u8 v] := if_pos h
    rw [e]
    refine ⟨_, rfl, own_mono hown1 (by simp), ((Below.refl _ _).alloc (Nat.le_refl _) _).grown hgrow1 (by simp) (fun k hk => by cases hk)⟩
  · have hor := hor_of v
    have hm : (v : Int) / 128 % 256 = (v : Int) / 128 := by omega
    go_enter Yba.func10, Yba.ntmps10
    go_wp2_with fail
    refine wp_loop_rounds 2 ?_
    rw [rounds_succ]
    go_wp2_with (at_builtin; refine wpList_append_grows _ rfl _ _ 22 rfl 5 i0 (.int .u8 0) 1 1 Yba.underlying22 hi hz0 hz1 hz2 rfl (by decide) ao n n xs rfl (fun e => ⟨hnone e, hnone e⟩) (by omega) (hc1 _) ⟨w.heap.size, 0, none⟩ 1 1 [.int .u8 ((v % 128 + 128 : Nat) : Int)] rfl rfl (cell_one_new _ _ _) (by simp [Value.oneCell']) (by omega) (by unfold maxLen; omega) (by omega) ?_; intro v' w1 hown0 hgrow1)
    have hown1 := own_mono (B' := w.heap.size) hown0 (by simp)
    have hB1 : Below w.heap.size w w1 := ((Below.refl _ _).alloc (Nat.le_refl _) _).grown hgrow1 (by simp) (fun k hk => by cases hk)
    have hs1 : w.heap.size ≤ w1.heap.size := hB1.size
    clear hgrow1 hown0
    rw [rounds_succ]
    go_wp2_with (at_builtin; refine wpList_append_own _ rfl _ _ 22 rfl w.heap.size 5 i0 (.int .u8 0) 1 1 Yba.underlying22 hi hz0 hz1 hz2 rfl (by decide) v' (n + 1) _ rfl (hown1.alloc _) ⟨w1.heap.size, 0, none⟩ 1 1 [.int .u8 ((v / 128 : Nat) : Int)] rfl rfl (cell_one_new _ _ _) (by simp [Value.oneCell']) (by unfold maxLen; omega) (by omega) (by simp; omega) ?_; intro v2 w2 hown2 hgrow2 _)
    go_ret
    have e : uvC v = [.int .u8 ((v % 128 + 128 : Nat) : Int), .int .u8 ((v / 128 : Nat) : Int)] := if_neg h
    rw [e]
    refine ⟨_, rfl, ?_, hB1.trans (((Below.refl _ _).alloc hs1 _).grown hgrow2 (by simp; omega) (fun k hk => (hown1.lt k hk).1))⟩
    simpa using hown2

end Go.Proofs.Ybulkcqiq
