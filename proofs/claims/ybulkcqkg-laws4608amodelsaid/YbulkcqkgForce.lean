import Derived.Test.YbulkcqkgCmp
import Derived.Deep.LoopGhost
import Derived.Deep.CutBlock
import Derived.Deep.CutRange
import Derived.Deep.RegionWith
import Derived.Deep.RegionHeld3
namespace Go.Proofs.Ybulkcqkg
open Go.RowKit

/-- The greatest index below n whose number is no more than d. -/
def last (f : Nat → Int) (d : Int) : Nat → Option Nat
  | 0 => none
  | n + 1 => if f n ≤ d then some n else last f d n

/-- Is date m no later than d? -/
def fle (f : Nat → Int) (d : Int) (m : Nat) : Bool := decide (f m ≤ d)
theorem fle_not (f : Nat → Int) (d : Int) (m : Nat) : fle f d m = !decide (d < f m) := by
  by_cases h : f m ≤ d
  · simp [fle, h]
  · simp [fle, h]; omega

/-- The schedule's dates: element i of the row g holds the zero time moved on by f i. -/
structure Dates (w : World) (g n : Nat) (f : Nat → Int) : Prop where
  c1 : ∀ i, i < n → w.cell? ⟨g, i * 11 + 1, none⟩ = some (.int .u64 (f i % 1000000000))
  c2 : ∀ i, i < n → w.cell? ⟨g, i * 11 + 1 + 1, none⟩ = some (.int .i64 (f i / 1000000000))
  c3 : ∀ i, i < n → w.cell? ⟨g, i * 11 + 1 + 2, none⟩ = some (.pointer none)
  lt : g < w.heap.size

theorem Dates.below {w w' : World} {g n : Nat} {f : Nat → Int} (h : Dates w g n f) {B : Nat} (hB : g < B) (hw : Below B w w') : Dates w' g n f :=
  ⟨fun i hi => (hw.cell hB).trans (h.c1 i hi), fun i hi => (hw.cell hB).trans (h.c2 i hi), fun i hi => (hw.cell hB).trans (h.c3 i hi), Nat.lt_of_lt_of_le h.lt hw.size⟩

set_option maxRecDepth 100000 in
set_option maxHeartbeats 400000 in
theorem inForce_any (g n : Nat) (f : Nat → Int) (d : Int) (w : World) (hn : n ≤ 1024) (hD : Dates w g n f) :
    Calls Yba.prog 5 #[.slice (some ⟨g, 0, none⟩) n n, tv d] w fun e w' => e = .returned (.pointer ((last f d n).map fun i => ⟨g, i * 11, none⟩)) ∧ Below w.heap.size w w' := by
  obtain ⟨k, q, htv⟩ : ∃ k q, tv d = .agg #[.int .u64 k, .int .i64 q, .pointer none] := ⟨_, _, rfl⟩
  have HT : Hid (tv d = .agg #[.int .u64 k, .int .i64 q, .pointer none]) := htv
  rw [htv]
  clear htv
  go_enter Yba.func5, Yba.ntmps5
  go_wp2
  go_loopg [5] n (fun m i wr => m ≤ n ∧ i = .int .i64 ((m : Int) - 1) ∧ last f d n = last f d m ∧ Below (w.heap.size + 1) (w.alloc (.cells #[.int .u64 k, .int .i64 q, .pointer none] 26)) wr)
  case atStart => exact ⟨Nat.le_refl _, rfl, rfl, Below.refl _ _⟩
  case round =>
    obtain ⟨hm, rfl, hl, hB⟩ := hrel
    have HL : Hid (last f d n = last f d gk) := hl
    clear hl
    have hw : Below w.heap.size w wr := ((Below.refl _ w).alloc (Nat.le_refl _) _).trans (hB.mono (by omega))
    rcases Nat.eq_zero_or_pos gk with h0 | h0
    · subst h0
      go_wp2
      go_ret
      rw [HL.out]
      exact ⟨rfl, hw⟩
    · obtain ⟨m, rfl⟩ : ∃ m, gk = m + 1 := ⟨gk - 1, by omega⟩
      have em : (((m + 1 : Nat) : Int) - 1) = (m : Int) := by omega
      rw [em]
      have hDr := hD.below hD.lt hw
      have b1 : wr.cell? ⟨w.heap.size, 0, none⟩ = some (.int .u64 k) := (hB.cell (by show w.heap.size < w.heap.size + 1; omega)).trans (by simp)
      have b2 : wr.cell? ⟨w.heap.size, 1, none⟩ = some (.int .i64 q) := (hB.cell (by show w.heap.size < w.heap.size + 1; omega)).trans (by simp)
      have b3 : wr.cell? ⟨w.heap.size, 2, none⟩ = some (.pointer none) := (hB.cell (by show w.heap.size < w.heap.size + 1; omega)).trans (by simp)
      have s1 := hDr.c1 m (by omega)
      have s2 := hDr.c2 m (by omega)
      have s3 := hDr.c3 m (by omega)
      have hbf := fun w' => before_any d (f m) w'
      rw [HT.out] at hbf
      simp only [tv] at hbf
      have i0 : (0 : Int) ≤ (m : Int) := by omega
      have i1 : (m : Int) < (n : Int) := by omega
      clear em
      go_upto_region 4 with fail
      go_cut [20] from 13 to 20 (fun v wx => v = .bool (fle f d m) ∧ Below wr.heap.size wr wx)
      case first =>
        go_region_with (go_at_call 11; refine (hbf _).mono ?_; rintro e w' ⟨rfl, hb1⟩)
        all_goals go_wp2
        all_goals go_meet
        all_goals exact ⟨by rw [fle_not], (Below.refl _ wr).drew.trans hb1⟩
      case rest =>
        obtain ⟨rfl, hB2⟩ := hcut
        have hB3 : Below (w.heap.size + 1) (w.alloc (.cells #[.int .u64 k, .int .i64 q, .pointer none] 26)) wc := hB.trans (hB2.mono (by have := hB.size; simpa using this))
        have hw3 : Below w.heap.size w wc := hw.trans (hB2.mono hw.size)
        by_cases hc : f m ≤ d
        · have t0 : fle f d m = true := by simpa [fle] using hc
          have hla : last f d (m + 1) = some m := by simp [last, hc]
          have HLa : Hid (last f d (m + 1) = some m) := hla
          clear hla s1 s2 s3 b1 b2 b3 hbf
          rw [t0]
          go_wp2
          go_ret
          rw [HL.out, HLa.out]
          exact ⟨rfl, hw3⟩
        · have t0 : fle f d m = false := by simpa [fle] using hc
          have hla : last f d (m + 1) = last f d m := by simp [last, hc]
          have HLa : Hid (last f d (m + 1) = last f d m) := hla
          clear hla s1 s2 s3 b1 b2 b3 hbf
          rw [t0]
          go_wp2
          go_roundg m
          case measure => omega
          case rel => exact ⟨by omega, rfl, by rw [HL.out, HLa.out], hB3⟩

end Go.Proofs.Ybulkcqkg
