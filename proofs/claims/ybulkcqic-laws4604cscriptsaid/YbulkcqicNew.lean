/-
  newSlabs.
-/
import Derived.Test.YbulkcqicFree
namespace Go.Proofs.Ybulkcqic
open Go.RowKit

def zl : List Value := .pointer none :: .int .i32 0 :: .int .u32 0 :: (List.replicate 177 (.int .i32 0) ++ [.int .i64 0, .int .i64 0])
theorem Yba.zero45 : (Yba.prog.info? 45).map (fun i => (i.zero, i.size)) = some (some (.agg zl.toArray), 182) := by kernel_rfl
theorem zero_run : ∀ w : World, (zeroValue 45).run Yba.prog w = .ok (.agg zl.toArray) w := by
  intro w
  obtain ⟨j, hj, e⟩ := Option.map_eq_some_iff.1 Yba.zero45
  have e1 : j.zero = some (.agg zl.toArray) := congrArg Prod.fst e
  simp [zeroValue, typeInfo, hj, e1]

/-- The slabs as newSlabs makes them, the first k lists laid. -/
def St0 (k : Nat) : St := { w := fun i => if i = 179 then -1 else if 3 ≤ i ∧ i < 3 + k then -1 else 0, b := fun _ _ => 0, d := fun _ _ => 0, nb := 0, live := fun _ => false }
def Ad0 (n : Nat) : Ad := { sb := n, vb := n + 1, ab := 0, cap := 0, bb := fun _ => 0, db := fun _ => 0, tag := fun k => if k = n then 0 else 1 }

theorem zl_len : zl.length = 182 := by
  show (List.replicate 177 (Value.int .i32 0) ++ [Value.int .i64 0, Value.int .i64 0]).length + 3 = 182
  rw [List.length_append, List.length_replicate]
  rfl
theorem zl_get (i : Nat) (hi : i < 182) (h0 : 0 < i) : zl[i]? = some (.int (wk i) 0) := by
  obtain ⟨j, rfl⟩ : ∃ j, i = j + 1 := ⟨i - 1, by omega⟩
  by_cases h2 : j < 2
  · obtain rfl | rfl : j = 0 ∨ j = 1 := by omega
    · rfl
    · rfl
  · obtain ⟨m, rfl⟩ : ∃ m, j = m + 2 := ⟨j - 2, by omega⟩
    show (List.replicate 177 (Value.int .i32 0) ++ [.int .i64 0, .int .i64 0])[m]? = _
    by_cases h3 : m < 177
    · rw [List.getElem?_append_left (by rw [List.length_replicate]; exact h3), List.getElem?_replicate, if_pos h3, wk, if_neg (by omega), if_pos (by omega)]
    · obtain rfl | rfl : m = 177 ∨ m = 178 := by omega
      · rfl
      · rfl

theorem new_R (U : Nat → Prop) (w : World) (hU : ∀ k, U k → k < w.heap.size) :
    R U (Ad0 w.heap.size) (St0 0) (((w.alloc (.cells (zl.toArray.setIfInBounds 179 (.int .i32 (-1))) 45)).alloc (.cells #[.slice none 0 0] 57)).setCell ⟨w.heap.size, 0, none⟩ (.pointer (some ⟨w.heap.size + 1, 0, none⟩))) ∧
    Keep U w (((w.alloc (.cells (zl.toArray.setIfInBounds 179 (.int .i32 (-1))) 45)).alloc (.cells #[.slice none 0 0] 57)).setCell ⟨w.heap.size, 0, none⟩ (.pointer (some ⟨w.heap.size + 1, 0, none⟩))) := by
  have hnU : ¬ U w.heap.size := fun h => absurd (hU _ h) (by omega)
  have hnU1 : ¬ U (w.heap.size + 1) := fun h => absurd (hU _ h) (by omega)
  have hown : ∀ i v, (zl.toArray.setIfInBounds 179 (.int .i32 (-1)))[i]? = some v → Has ((w.alloc (.cells (zl.toArray.setIfInBounds 179 (.int .i32 (-1))) 45)).alloc (.cells #[.slice none 0 0] 57)) ⟨w.heap.size, i, none⟩ v := fun i v hv => by
    refine Has.alloc ?_ _
    generalize zl.toArray.setIfInBounds 179 (.int .i32 (-1)) = Z at hv ⊢
    exact has_own w _ 45 i _ hv
  have h0 := hown 0 (.pointer none) (by rw [Array.getElem?_setIfInBounds_ne (by omega), List.getElem?_toArray]; rfl)
  refine ⟨
    { ub := fun k hk => ?_, slab := fun i hi => ?_, vec := ?_
      ptr := fun i hi => absurd hi (Nat.not_lt_zero _), blk := fun i hi => absurd hi (Nat.not_lt_zero _), dat := fun i hi => absurd hi (Nat.not_lt_zero _)
      tS := ?_, tV := ?_, tA := fun h => absurd h (Nat.not_lt_zero _), tB := fun i hi => absurd hi (Nat.not_lt_zero _), tD := fun i hi => absurd hi (Nat.not_lt_zero _)
      nS := hnU, nV := hnU1, nA := fun h => absurd h (Nat.not_lt_zero _), nB := fun i hi => absurd hi (Nat.not_lt_zero _), nD := fun i hi => absurd hi (Nat.not_lt_zero _)
      capn := ⟨Nat.zero_le _, Nat.zero_le _⟩ }, ?_⟩
  · have := hU k hk
    simp [World.setCell]
    omega
  · by_cases e0 : i = 0
    · subst e0
      exact h0.set_same _
    · refine (hown i (slabV (Ad0 w.heap.size) (St0 0) i) ?_).set_other _ (fun e => e0 (by simpa using (congrArg Addr.off e).symm))
      rw [slabV, if_neg e0]
      by_cases e9 : i = 179
      · subst e9
        rw [Array.getElem?_setIfInBounds_self_of_lt (by rw [List.size_toArray, zl_len]; omega)]
        rfl
      · have hz := zl_get i hi (by omega)
        have e : (zl.toArray.setIfInBounds 179 (.int .i32 (-1)))[i]? = zl[i]? := by
          rw [Array.getElem?_setIfInBounds_ne (fun e => e9 e.symm)]
          simp
        have e2 : (St0 0).w i = 0 := by
          show (if i = 179 then _ else if 3 ≤ i ∧ i < 3 + 0 then _ else _) = _
          rw [if_neg e9, if_neg (by omega)]
        rw [e, hz, e2]
  · refine (Below.heap_setCell _ _ _ _ (by show w.heap.size + 1 ≠ w.heap.size; omega)).trans ?_
    have := heap_alloc_new (w.alloc (.cells (zl.toArray.setIfInBounds 179 (.int .i32 (-1))) 45)) (.cells #[.slice none 0 0] 57)
    rwa [World.size_alloc] at this
  · show (if w.heap.size = w.heap.size then 0 else 1) = 0
    simp
  · show (if w.heap.size + 1 = w.heap.size then 0 else 1) = 1
    simp
  · exact (((Keep.refl U w).alloc hU _).alloc hU _).set hnU _

theorem St0_step (k : Nat) (hk : k < 88) : setH (St0 k) (3 + k) (-1) = St0 (k + 1) := by
  have e : upd (St0 k).w (3 + k) (-1) = (St0 (k + 1)).w := by
    funext i
    show (if i = 3 + k then (-1 : Int) else if i = 179 then -1 else if 3 ≤ i ∧ i < 3 + k then -1 else 0) = (if i = 179 then -1 else if 3 ≤ i ∧ i < 3 + (k + 1) then -1 else 0)
    by_cases e1 : i = 3 + k
    · rw [if_pos e1, if_neg (by omega), if_pos (by omega)]
    · rw [if_neg e1]
      by_cases e2 : i = 179
      · rw [if_pos e2, if_pos e2]
      · rw [if_neg e2, if_neg e2]
        by_cases e3 : 3 ≤ i ∧ i < 3 + k
        · rw [if_pos e3, if_pos (by omega)]
        · rw [if_neg e3, if_neg (by omega)]
  unfold setH
  rw [e]
  rfl

set_option maxRecDepth 100000 in
set_option maxHeartbeats 2000000 in
theorem new_any (U : Nat → Prop) (w : World) (hU : ∀ k, U k → k < w.heap.size) :
    Calls Yba.prog 5 #[] w fun e w' => e = .returned (.pointer (some ⟨w.heap.size, 0, none⟩)) ∧ R U (Ad0 w.heap.size) (St0 88) w' ∧ Keep U w w' := by
  have hz := zero_run
  have hl : zl.toArray.size = 182 := by rw [List.size_toArray, zl_len]
  have hnew := new_R U w hU
  have c0 : zl.toArray[0]? = some (.pointer none) := by rw [List.getElem?_toArray]; rfl
  generalize zl.toArray = zA at hz hl hnew c0
  obtain ⟨zB, HZB⟩ : ∃ x, Hid (x = zA.setIfInBounds 179 (.int .i32 (-1))) := ⟨_, rfl⟩
  have d0 : zB[0]? = some (.pointer none) := by rw [HZB.out, Array.getElem?_setIfInBounds_ne (by omega)]; exact c0
  rw [← HZB.out] at hnew
  go_enter Yba.func5, Yba.ntmps5
  go_upto_region 1 with fail
  go_cut [1] from 3 to 4 (fun v wx => v = .pointer (some ⟨w.heap.size, 0, none⟩) ∧ wx = w.alloc (.cells zB 45))
  case first =>
    go_wp2
    go_meet
    case rel => exact ⟨rfl, by rw [HZB.out]⟩
  case rest =>
  obtain ⟨rfl, rfl⟩ := hcut
  clear hz hl c0
  have s0 : Has ((w.alloc (.cells zB 45)).alloc (.cells #[.slice none 0 0] 57)) ⟨w.heap.size, 0, none⟩ (.pointer none) := by
    refine Has.alloc ?_ _
    exact has_own w _ 45 0 _ d0
  have s2 : ((w.alloc (.cells zB 45)).alloc (.cells #[.slice none 0 0] 57)).cell? ⟨w.heap.size + 1, 0, none⟩ = some (.slice none 0 0) := by
    have := (has_own (w.alloc (.cells zB 45)) #[.slice none 0 0] 57 0 _ rfl).1
    rwa [World.size_alloc] at this
  go_upto_region 2 with fail
  go_cut [5] from 6 to 9 (fun _ wx => R U (Ad0 w.heap.size) (St0 0) wx ∧ Keep U w wx)
  case first =>
    go_wp2_with fail
    refine (store_any w.heap.size none ⟨w.heap.size + 1, 0, none⟩ _ _ s0.1 s0.2 s2).mono ?_
    rintro e w2 ⟨rfl, hw2⟩
    rw [← hw2] at hnew
    clear hw2 s0 s2 d0
    go_wp2
    go_meet
    case rel => exact hnew
  case rest =>
  obtain ⟨hR, hK⟩ := hcut
  obtain ⟨w2, e2⟩ : ∃ x, x = wc := ⟨_, rfl⟩
  subst e2
  clear s0 s2 hnew d0
  obtain ⟨n, HN⟩ : ∃ x, Hid (x = w.heap.size) := ⟨_, rfl⟩
  rw [← HN.out] at hR ⊢
  go_upto_block 0 with fail
  go_cut [2] from 10 to 18 (fun _ wx => R U (Ad0 n) (St0 88) wx ∧ Keep U w wx)
  case first =>
    go_wp2_with fail
    go_loopg [2, 10] 88 (fun g _ i wr => ∃ k : Nat, k + g = 88 ∧ i = .int .i64 (k : Int) ∧ R U (Ad0 n) (St0 k) wr ∧ Keep U w wr)
    case atStart => exact ⟨0, by omega, rfl, hR, hK⟩
    case round =>
      obtain ⟨k, hk, rfl, hRk, hKk⟩ := hrel
      have HK : Hid (k + gk = 88) := hk
      by_cases hlt : k < 88
      · have tk : decide ((k : Int) < 88) = true := by simp; omega
        obtain ⟨a1, b1⟩ := hRk.hd (i := 3 + k) (by omega) (by omega)
        have a1' : wr.cell? ⟨n, 3 + k, none⟩ = _ := a1
        have b1' : wr.frozen? ⟨n, 3 + k, none⟩ = false := b1
        have j0 : (0 : Int) ≤ (k : Int) := by omega
        have j1 : (k : Int) < 88 := by omega
        clear hk a1 b1
        go_wp2
        go_roundg (gk - 1)
        case measure => have := HK.out; omega
        case rel =>
          refine ⟨k + 1, by have := HK.out; omega, by go_num, ?_, hRk.kHd hKk _ _⟩
          rw [← St0_step k hlt]
          exact hRk.setHd (by omega) (by omega) _
      · have tk : decide ((k : Int) < 88) = false := by simp; omega
        obtain rfl : k = 88 := by omega
        go_wp2
        go_meet
        case rel => exact ⟨hRk, hKk⟩
  case rest =>
  obtain ⟨hR3, hK3⟩ := hcut
  go_wp2
  go_ret
  rw [← HN.out]
  exact ⟨rfl, hR3, hK3⟩

end Go.Proofs.Ybulkcqic
