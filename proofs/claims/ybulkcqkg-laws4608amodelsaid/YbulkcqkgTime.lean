import Derived.Test.YbulkcqkgRows
import Derived.Test.YbulkcqkgBits
import Derived.WalkKit
import Derived.WalkSpells
import Derived.WalkLawsBesides
import Derived.Deep.Cut
namespace Go.Proofs.Ybulkcqkg
open Go.RowKit

set_option maxHeartbeats 400000 in
theorem nsec_any (b o n : Nat) (w : World) (hn : n < 1073741824) (h0 : w.cell? ⟨b, o, none⟩ = some (.int .u64 n)) :
    Calls Yba.prog 8 #[.pointer (some ⟨b, o, none⟩)] w fun e w' => e = .returned (.int .i32 n) ∧ w' = w := by
  have h1 := and_low n hn
  go_enter Yba.func8, Yba.ntmps8
  go_wp2
  go_ret
  exact ⟨rfl, rfl⟩

set_option maxHeartbeats 400000 in
theorem sec_any (b o n : Nat) (x : Int) (w : World) (hn : n < 1073741824) (h0 : w.cell? ⟨b, o, none⟩ = some (.int .u64 n)) (h1 : w.cell? ⟨b, o + 1, none⟩ = some (.int .i64 x)) :
    Calls Yba.prog 12 #[.pointer (some ⟨b, o, none⟩)] w fun e w' => e = .returned (.int .i64 x) ∧ w' = w := by
  have h2 := test_high n hn
  go_enter Yba.func12, Yba.ntmps12
  go_wp2
  go_ret
  exact ⟨rfl, rfl⟩

set_option maxHeartbeats 400000 in
theorem addSec_zero (b o n : Nat) (d : Int) (w : World) (hn : n < 1073741824) (h0 : w.cell? ⟨b, o, none⟩ = some (.int .u64 n)) (h1 : w.cell? ⟨b, o + 1, none⟩ = some (.int .i64 0)) (f1 : w.frozen? ⟨b, o + 1, none⟩ = false)
    (hd1 : -10000000000 ≤ d) (hd2 : d ≤ 10000000000) :
    Calls Yba.prog 9 #[.pointer (some ⟨b, o, none⟩), .int .i64 d] w fun e w' => e = .returned (.tuple #[]) ∧ w' = w.setCell ⟨b, o + 1, none⟩ (.int .i64 d) := by
  have h2 := test_high n hn
  by_cases hp : 0 < d
  · go_enter Yba.func9, Yba.ntmps9
    go_wp2
    go_end0
    exact ⟨rfl, rfl⟩
  · go_enter Yba.func9, Yba.ntmps9
    go_wp2
    go_end0
    exact ⟨rfl, rfl⟩

/-- The zero time moved on by d nanoseconds. -/
def tv (d : Int) : Value := .agg #[.int .u64 (d % 1000000000), .int .i64 (d / 1000000000), .pointer none]

set_option maxRecDepth 100000 in
set_option maxHeartbeats 400000 in
theorem add_pos (d : Int) (w : World) (h0 : 0 ≤ d) (h1 : d ≤ 9223372036854775807) :
    Calls Yba.prog 4 #[.agg #[.int .u64 0, .int .i64 0, .pointer none], .int .i64 d] w fun e w' => e = .returned (tv d) ∧ Below w.heap.size w w' := by
  obtain ⟨k, hk⟩ : ∃ k : Nat, d % 1000000000 = k := ⟨(d % 1000000000).toNat, by omega⟩
  have hk9 : k < 1000000000 := by omega
  obtain ⟨q, hq⟩ : ∃ q : Int, d / 1000000000 = q := ⟨_, rfl⟩
  have hq1 : 0 ≤ q := by omega
  have hq2 : q ≤ 9223372037 := by omega
  have hor := or_zero k (by omega)
  have hth := test_high k (by omega)
  have han := andNot_zero
  have HT : Hid (tv d = .agg #[.int .u64 k, .int .i64 q, .pointer none]) := by show _ = _; rw [tv, hk, hq]
  go_enter Yba.func4, Yba.ntmps4
  go_wp2_with fail
  refine (nsec_any w.heap.size 0 0 _ (by omega) (by simp)).mono ?_
  rintro e w' ⟨rfl, rfl⟩
  have t16 : decide ((1000000000 : Int) ≤ (k : Int)) = false := by simp; omega
  have t22 : decide ((k : Int) < 0) = false := by simp
  go_wp2_with fail
  refine (addSec_zero w.heap.size 0 k q _ (by omega) ?_ ?_ ?_ (by omega) (by omega)).mono ?_
  · simp
  · simp
  · simp
  rintro e w' ⟨rfl, rfl⟩
  go_wp2
  refine bodyPost_ret (v := .agg #[.int .u64 k, .int .i64 q, .pointer none]) (by simp [results, Yba.results4, go_sem]) rfl ⟨?_, ?_⟩
  · rw [HT.out]
  · exact ((Below.refl _ _).alloc (Nat.le_refl _) _).alloc (by simp) _

set_option maxRecDepth 100000 in
set_option maxHeartbeats 400000 in
theorem add_neg0 (d : Int) (w : World) (h0 : d < 0) (h1 : -9223372036854775808 ≤ d) (hz : d % 1000000000 = 0) :
    Calls Yba.prog 4 #[.agg #[.int .u64 0, .int .i64 0, .pointer none], .int .i64 d] w fun e w' => e = .returned (tv d) ∧ Below w.heap.size w w' := by
  obtain ⟨q, hq⟩ : ∃ q : Int, d / 1000000000 = q := ⟨_, rfl⟩
  have hq1 : -9223372038 ≤ q := by omega
  have hq2 : q ≤ 0 := by omega
  have e1 : d.tdiv 1000000000 = q := by rw [tdiv_neg d h0]; omega
  have e2 : d.tmod 1000000000 = 0 := by rw [tmod_neg d h0]; omega
  have HT : Hid (tv d = .agg #[.int .u64 0, .int .i64 q, .pointer none]) := by show _ = _; rw [tv, hz, hq]
  have hor : bits .or .u64 0 0 = 0 := by decide
  have hth : (bits .and .u64 0 9223372036854775808 != 0) = false := by decide
  have han := andNot_zero
  clear hz hq h1
  go_enter Yba.func4, Yba.ntmps4
  go_wp2_with fail
  refine (nsec_any w.heap.size 0 0 _ (by omega) (by simp)).mono ?_
  rintro e w' ⟨rfl, rfl⟩
  go_wp2_with fail
  refine (addSec_zero w.heap.size 0 0 q _ (by omega) ?_ ?_ ?_ (by omega) (by omega)).mono ?_
  · simp
  · simp
  · simp
  rintro e w' ⟨rfl, rfl⟩
  go_wp2
  refine bodyPost_ret (v := .agg #[.int .u64 0, .int .i64 q, .pointer none]) (by simp [results, Yba.results4, go_sem]) rfl ⟨?_, ?_⟩
  · rw [HT.out]
  · exact ((Below.refl _ _).alloc (Nat.le_refl _) _).alloc (by simp) _

set_option maxRecDepth 100000 in
set_option maxHeartbeats 400000 in
theorem add_neg1 (d : Int) (w : World) (h0 : d < 0) (h1 : -9223372036854775808 ≤ d) (hz : d % 1000000000 ≠ 0) :
    Calls Yba.prog 4 #[.agg #[.int .u64 0, .int .i64 0, .pointer none], .int .i64 d] w fun e w' => e = .returned (tv d) ∧ Below w.heap.size w w' := by
  obtain ⟨q, hq⟩ : ∃ q : Int, d / 1000000000 = q := ⟨_, rfl⟩
  obtain ⟨k, hk⟩ : ∃ k : Nat, d % 1000000000 = k := ⟨(d % 1000000000).toNat, by omega⟩
  obtain ⟨r, e2⟩ : ∃ r : Int, d.tmod 1000000000 = r := ⟨_, rfl⟩
  have hr : r = -((-d) % 1000000000) := by rw [← e2, tmod_neg d h0]
  have hr1 : -1000000000 < r := by omega
  have hr2 : r < 0 := by omega
  have hrk : r + 1000000000 = k := by omega
  have hk9 : k < 1000000000 := by omega
  have hq1 : -9223372038 ≤ q := by omega
  have hq2 : q ≤ -1 := by omega
  have e1 : d.tdiv 1000000000 = q + 1 := by rw [tdiv_neg d h0]; omega
  have HT : Hid (tv d = .agg #[.int .u64 k, .int .i64 q, .pointer none]) := by show _ = _; rw [tv, hk, hq]
  have hor := or_zero k (by omega)
  have hth := test_high k (by omega)
  have han := andNot_zero
  have t16 : decide ((1000000000 : Int) ≤ r) = false := by simp; omega
  have t22 : decide (r < 0) = true := by simp; omega
  clear hz hq h1 hk hr
  go_enter Yba.func4, Yba.ntmps4
  go_wp2_with fail
  refine (nsec_any w.heap.size 0 0 _ (by omega) (by simp)).mono ?_
  rintro e w' ⟨rfl, rfl⟩
  go_wp2_with fail
  refine (addSec_zero w.heap.size 0 k q _ (by omega) ?_ ?_ ?_ (by omega) (by omega)).mono ?_
  · simp
  · simp
  · simp
  rintro e w' ⟨rfl, rfl⟩
  go_wp2
  refine bodyPost_ret (v := .agg #[.int .u64 k, .int .i64 q, .pointer none]) (by simp [results, Yba.results4, go_sem]) rfl ⟨?_, ?_⟩
  · rw [HT.out]
  · exact ((Below.refl _ _).alloc (Nat.le_refl _) _).alloc (by simp) _

theorem add_any (d : Int) (w : World) (h0 : -9223372036854775808 ≤ d) (h1 : d ≤ 9223372036854775807) :
    Calls Yba.prog 4 #[.agg #[.int .u64 0, .int .i64 0, .pointer none], .int .i64 d] w fun e w' => e = .returned (tv d) ∧ Below w.heap.size w w' := by
  by_cases h : 0 ≤ d
  · exact add_pos d w h h1
  · by_cases hz : d % 1000000000 = 0
    · exact add_neg0 d w (by omega) h0 hz
    · exact add_neg1 d w (by omega) h0 hz

end Go.Proofs.Ybulkcqkg
