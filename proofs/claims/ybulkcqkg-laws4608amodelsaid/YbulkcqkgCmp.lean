import Derived.Test.YbulkcqkgTime
namespace Go.Proofs.Ybulkcqkg
open Go.RowKit

theorem high_both (n m : Nat) (h : n < 1073741824) (hm : m < 1073741824) : (bits .and .u64 (bits .and .u64 (n : Int) (m : Int)) 9223372036854775808 != 0) = false := by
  obtain ⟨k, hk, e⟩ := and_both n m h hm
  rw [e]
  exact test_high k hk

/-- A cell of the second of two new blocks. -/
theorem cell_new2 (w : World) (o1 : Obj) (cs : Array Value) (i : Nat) {t : TypeId} : ((w.alloc o1).alloc (.cells cs t)).cell? ⟨w.heap.size + 1, 0 + i, none⟩ = cs[i]? := by
  have h := heap_alloc_new (w.alloc o1) (.cells cs t)
  have e : (w.alloc o1).heap.size = w.heap.size + 1 := by simp
  rw [e] at h
  simp only [World.cell?, h, Nat.zero_add]
  rfl

/-- Is (q1, k1) ahead of (q2, k2)? -/
def ltKQ (k1 k2 : Nat) (q1 q2 : Int) : Bool := decide (q1 < q2 ∨ (q1 = q2 ∧ k1 < k2))

set_option maxRecDepth 100000 in
set_option maxHeartbeats 400000 in
theorem before_kq (k1 k2 : Nat) (q1 q2 : Int) (w : World) (h1 : k1 < 1000000000) (h2 : k2 < 1000000000) :
    Calls Yba.prog 11 #[.agg #[.int .u64 k1, .int .i64 q1, .pointer none], .agg #[.int .u64 k2, .int .i64 q2, .pointer none]] w fun e w' => e = .returned (.bool (ltKQ k1 k2 q1 q2)) ∧ Below w.heap.size w w' := by
  have hb := high_both k1 k2 (by omega) (by omega)
  by_cases hq : q1 < q2
  · have t1 : decide (q1 < q2) = true := by simpa using hq
    have e : ltKQ k1 k2 q1 q2 = true := by simp [ltKQ, hq]
    rw [e]
    go_enter Yba.func11, Yba.ntmps11
    go_wp2_with fail
    refine (sec_any w.heap.size 0 k1 q1 _ (by omega) (by simp) (by simp)).mono ?_
    rintro e w' ⟨rfl, rfl⟩
    go_wp2_with fail
    refine (sec_any (w.heap.size + 1) 0 k2 q2 _ (by omega) (cell_new2 w _ _ 0) (cell_new2 w _ _ 1)).mono ?_
    rintro e w' ⟨rfl, rfl⟩
    go_wp2
    go_ret
    exact ⟨rfl, ((Below.refl _ _).alloc (Nat.le_refl _) _).alloc (by simp) _⟩
  · have t1 : decide (q1 < q2) = false := by simpa using hq
    by_cases he : q1 = q2
    · subst he
      have t2 : (q1 == q1) = true := by simp
      by_cases hk : k1 < k2
      · have t3 : decide ((k1 : Int) < (k2 : Int)) = true := by simp; omega
        have e : ltKQ k1 k2 q1 q1 = true := by simp [ltKQ, hk]
        rw [e]
        go_enter Yba.func11, Yba.ntmps11
        go_wp2_with fail
        refine (sec_any w.heap.size 0 k1 q1 _ (by omega) (by simp) (by simp)).mono ?_
        rintro e w' ⟨rfl, rfl⟩
        go_wp2_with fail
        refine (sec_any (w.heap.size + 1) 0 k2 q1 _ (by omega) (cell_new2 w _ _ 0) (cell_new2 w _ _ 1)).mono ?_
        rintro e w' ⟨rfl, rfl⟩
        go_wp2_with fail
        refine (nsec_any w.heap.size 0 k1 _ (by omega) (by simp)).mono ?_
        rintro e w' ⟨rfl, rfl⟩
        go_wp2_with fail
        refine (nsec_any (w.heap.size + 1) 0 k2 _ (by omega) (cell_new2 w _ _ 0)).mono ?_
        rintro e w' ⟨rfl, rfl⟩
        go_wp2
        go_ret
        exact ⟨rfl, ((Below.refl _ _).alloc (Nat.le_refl _) _).alloc (by simp) _⟩
      · have t3 : decide ((k1 : Int) < (k2 : Int)) = false := by simp; omega
        have e : ltKQ k1 k2 q1 q1 = false := by simp [ltKQ, hk]
        rw [e]
        go_enter Yba.func11, Yba.ntmps11
        go_wp2_with fail
        refine (sec_any w.heap.size 0 k1 q1 _ (by omega) (by simp) (by simp)).mono ?_
        rintro e w' ⟨rfl, rfl⟩
        go_wp2_with fail
        refine (sec_any (w.heap.size + 1) 0 k2 q1 _ (by omega) (cell_new2 w _ _ 0) (cell_new2 w _ _ 1)).mono ?_
        rintro e w' ⟨rfl, rfl⟩
        go_wp2_with fail
        refine (nsec_any w.heap.size 0 k1 _ (by omega) (by simp)).mono ?_
        rintro e w' ⟨rfl, rfl⟩
        go_wp2_with fail
        refine (nsec_any (w.heap.size + 1) 0 k2 _ (by omega) (cell_new2 w _ _ 0)).mono ?_
        rintro e w' ⟨rfl, rfl⟩
        go_wp2
        go_ret
        exact ⟨rfl, ((Below.refl _ _).alloc (Nat.le_refl _) _).alloc (by simp) _⟩
    · have t2 : (q1 == q2) = false := by simpa using he
      have e : ltKQ k1 k2 q1 q2 = false := by simp [ltKQ, he]; omega
      rw [e]
      go_enter Yba.func11, Yba.ntmps11
      go_wp2_with fail
      refine (sec_any w.heap.size 0 k1 q1 _ (by omega) (by simp) (by simp)).mono ?_
      rintro e w' ⟨rfl, rfl⟩
      go_wp2_with fail
      refine (sec_any (w.heap.size + 1) 0 k2 q2 _ (by omega) (cell_new2 w _ _ 0) (cell_new2 w _ _ 1)).mono ?_
      rintro e w' ⟨rfl, rfl⟩
      go_wp2
      go_ret
      exact ⟨rfl, ((Below.refl _ _).alloc (Nat.le_refl _) _).alloc (by simp) _⟩

set_option maxRecDepth 100000 in
set_option maxHeartbeats 400000 in
theorem equal_kq (k1 : Nat) (q1 : Int) (w : World) (h1 : k1 < 1000000000) :
    Calls Yba.prog 6 #[.agg #[.int .u64 k1, .int .i64 q1, .pointer none], .agg #[.int .u64 k1, .int .i64 q1, .pointer none]] w fun e w' => e = .returned (.bool true) ∧ Below w.heap.size w w' := by
  have hb := high_both k1 k1 (by omega) (by omega)
  have t1 : (q1 == q1) = true := by simp
  have t2 : ((k1 : Int) == (k1 : Int)) = true := by simp
  go_enter Yba.func6, Yba.ntmps6
  go_wp2_with fail
  refine (sec_any w.heap.size 0 k1 q1 _ (by omega) (by simp) (by simp)).mono ?_
  rintro e w' ⟨rfl, rfl⟩
  go_wp2_with fail
  refine (sec_any (w.heap.size + 1) 0 k1 q1 _ (by omega) (cell_new2 w _ _ 0) (cell_new2 w _ _ 1)).mono ?_
  rintro e w' ⟨rfl, rfl⟩
  go_wp2_with fail
  refine (nsec_any w.heap.size 0 k1 _ (by omega) (by simp)).mono ?_
  rintro e w' ⟨rfl, rfl⟩
  go_wp2_with fail
  refine (nsec_any (w.heap.size + 1) 0 k1 _ (by omega) (cell_new2 w _ _ 0)).mono ?_
  rintro e w' ⟨rfl, rfl⟩
  go_wp2
  go_ret
  exact ⟨rfl, ((Below.refl _ _).alloc (Nat.le_refl _) _).alloc (by simp) _⟩

/-- The zero time moved on by x is ahead of the one moved on by y just where x < y. -/
theorem before_any (x y : Int) (w : World) :
    Calls Yba.prog 11 #[tv x, tv y] w fun e w' => e = .returned (.bool (decide (x < y))) ∧ Below w.heap.size w w' := by
  have h := before_kq (x % 1000000000).toNat (y % 1000000000).toNat (x / 1000000000) (y / 1000000000) w (by omega) (by omega)
  have e1 : (((x % 1000000000).toNat : Nat) : Int) = x % 1000000000 := by omega
  have e2 : (((y % 1000000000).toNat : Nat) : Int) = y % 1000000000 := by omega
  rw [e1, e2] at h
  have e3 : ltKQ (x % 1000000000).toNat (y % 1000000000).toNat (x / 1000000000) (y / 1000000000) = decide (x < y) := by
    unfold ltKQ
    rw [decide_eq_decide]
    omega
  rw [e3] at h
  exact h
theorem equal_any (x : Int) (w : World) :
    Calls Yba.prog 6 #[tv x, tv x] w fun e w' => e = .returned (.bool true) ∧ Below w.heap.size w w' := by
  have h := equal_kq (x % 1000000000).toNat (x / 1000000000) w (by omega)
  have e1 : (((x % 1000000000).toNat : Nat) : Int) = x % 1000000000 := by omega
  rw [e1] at h
  exact h

end Go.Proofs.Ybulkcqkg
