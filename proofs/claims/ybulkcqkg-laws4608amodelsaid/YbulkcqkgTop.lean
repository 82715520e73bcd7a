import Derived.Test.YbulkcqkgForce
import Derived.OpenShut
import Derived.Lib.Builder
namespace Go.Proofs.Ybulkcqkg
open Go.RowKit

theorem Yba.info39 : (Yba.prog.info? 39).map (fun i => (i.zero, i.size, i.bytes)) = some (some (.agg #[.pointer none, .int .u64 0, .int .i64 0, .pointer none, .int .i64 0, .int .i64 0, .pointer none, .pointer none, .pointer none, .pointer none, .pointer none]), 11, 88) := by kernel_rfl

/-- The schedule's row g: n elements, the first k bear their dates. -/
structure Row (w : World) (g n k : Nat) (f : Nat → Int) : Prop where
  row : ∃ cs, w.heap[g]? = some (.cells cs 39 (0, 0)) ∧ cs.size = n * 11 ∧ (∀ i, i < k → cs[i * 11 + 1]? = some (.int .u64 (f i % 1000000000)) ∧ cs[i * 11 + 1 + 1]? = some (.int .i64 (f i / 1000000000)) ∧ cs[i * 11 + 1 + 2]? = some (.pointer none))

/-- The zero time's variable. -/
def Zero (w : World) (b : Nat) : Prop := w.heap[b]? = some (.cells #[.int .u64 0, .int .i64 0, .pointer none] 26 (0, 0))

theorem Zero.cells {w : World} {b : Nat} (h : Zero w b) : w.cell? ⟨b, 0, none⟩ = some (.int .u64 0) ∧ w.cell? ⟨b, 1, none⟩ = some (.int .i64 0) ∧ w.cell? ⟨b, 2, none⟩ = some (.pointer none) := by
  unfold Zero at h
  simp [World.cell?, h]

theorem Row.cell {w : World} {g n k : Nat} {f : Nat → Int} (h : Row w g n k f) (o : Nat) (ho : o < n * 11) : ∃ v, w.cell? ⟨g, o, none⟩ = some v := by
  obtain ⟨cs, h1, h2, _⟩ := h.row
  exact ⟨cs[o]'(by omega), by simp only [World.cell?, h1]; exact Array.getElem?_eq_getElem (by omega)⟩
theorem Row.free {w : World} {g n k : Nat} {f : Nat → Int} (h : Row w g n k f) (o : Nat) : w.frozen? ⟨g, o, none⟩ = false := by
  obtain ⟨cs, h1, h2, _⟩ := h.row
  simp [World.frozen?, h1]
theorem Row.dates {w : World} {g n : Nat} {f : Nat → Int} (h : Row w g n n f) : Dates w g n f := by
  obtain ⟨cs, h1, h2, h3⟩ := h.row
  refine ⟨fun i hi => ?_, fun i hi => ?_, fun i hi => ?_, lt_of_block h1⟩
  · simp only [World.cell?, h1]; exact (h3 i hi).1
  · simp only [World.cell?, h1]; exact (h3 i hi).2.1
  · simp only [World.cell?, h1]; exact (h3 i hi).2.2
theorem Row.below {w w' : World} {g n k : Nat} {f : Nat → Int} (h : Row w g n k f) {B : Nat} (hB : g < B) (hw : Below B w w') : Row w' g n k f := by
  obtain ⟨cs, h1, h2⟩ := h.row
  exact ⟨cs, (hw.block g hB).trans h1, h2⟩
theorem Zero.below {w w' : World} {b : Nat} (h : Zero w b) {B : Nat} (hB : b < B) (hw : Below B w w') : Zero w' b := (hw.block b hB).trans h

/-- The store of one date. -/
theorem Row.store {w : World} {g n k : Nat} {f : Nat → Int} (h : Row w g n k f) (hk : k < n) :
    Row (((w.setCell ⟨g, k * 11 + 1, none⟩ (.int .u64 (f k % 1000000000))).setCell ⟨g, k * 11 + 1 + 1, none⟩ (.int .i64 (f k / 1000000000))).setCell ⟨g, k * 11 + 1 + 2, none⟩ (.pointer none)) g n (k + 1) f := by
  obtain ⟨cs, h1, h2, h3⟩ := h.row
  refine ⟨_, heap_setCell_same _ g _ _ 39 _ (heap_setCell_same _ g _ _ 39 _ (heap_setCell_same _ g _ _ 39 _ h1)), by simpa using h2, fun i hi => ?_⟩
  simp only [Array.getElem?_setIfInBounds]
  by_cases e : i = k
  · subst e
    refine ⟨?_, ?_, ?_⟩
    · rw [if_neg (by omega), if_neg (by omega), if_pos rfl, if_pos (by omega)]
    · rw [if_neg (by omega), if_pos rfl, if_pos (by simp; omega)]
    · rw [if_pos rfl, if_pos (by simp; omega)]
  · obtain ⟨c1, c2, c3⟩ := h3 i (by omega)
    refine ⟨?_, ?_, ?_⟩
    · rw [if_neg (by omega), if_neg (by omega), if_neg (by omega)]; exact c1
    · rw [if_neg (by omega), if_neg (by omega), if_neg (by omega)]; exact c2
    · rw [if_neg (by omega), if_neg (by omega), if_neg (by omega)]; exact c3

theorem neq_ptr40 (w : World) (a : Addr) : (binOp .neq 40 (.pointer (some a)) (.pointer (some a))).run Yba.prog w = .ok (.bool false) w := by
  obtain ⟨i0, hi, _⟩ := info_parts Yba.info39
  exact Lib.run_neq_ptr_same w a Yba.underlying40 hi

/-- The law's own index: -1 for none. -/
def idxI : Option Nat → Int | none => -1 | some i => i
theorem last_lt (f : Nat → Int) (d : Int) : ∀ n i, last f d n = some i → i < n
  | 0, i, h => by simp [last] at h
  | n + 1, i, h => by
    unfold last at h
    split at h
    · simp at h; omega
    · have := last_lt f d n i h; omega

set_option maxRecDepth 100000 in
set_option maxHeartbeats 1600000 in
theorem law_small (a0 : Option Addr) (n cap : Nat) (zs : List Int) (d : Int) (w : World) (hn : n ≤ 1024) (hz : n ≤ zs.length) (hb : ∀ i, i < n → -9223372036854775808 ≤ zs.getD i 0 ∧ zs.getD i 0 ≤ 9223372036854775807)
    (hd : -9223372036854775808 ≤ d ∧ d ≤ 9223372036854775807) (ha : 0 < n → ∃ b off, a0 = some ⟨b, off, none⟩ ∧ ∀ i, i < n → w.cell? ⟨b, off + i, none⟩ = some (.int .i64 (zs.getD i 0))) :
    Calls Yba.prog 3 #[.slice a0 n cap, .int .i64 d] w fun e w' => e = .returned (.bool true) ∧ Below w.heap.size w w' := by
  obtain ⟨i0, hi, hz0, hz1, hz2⟩ := info_parts Yba.info39
  have t0 : decide ((1024 : Int) < (n : Int)) = false := by simp; omega
  have hby : i0.bytes * n ≤ 281474976710656 := by rw [hz2]; omega
  go_enter Yba.func3, Yba.ntmps3
  go_upto_block 0 with (at_make; refine wpList_make_full _ rfl _ _ 28 rfl (w.heap.size + 1) 39 i0 _ 11 Yba.underlying28 hi hz0 hz1 .i64 .i64 n n n rfl rfl rfl rfl hby (by unfold maxLen; omega) (by simp) ?_; intro w1 hown1 hgrow1)
  have hB1 : Below w.heap.size w w1 := ((Below.refl _ _).alloc (Nat.le_refl _) _).grown hgrow1 (by simp) (fun k hk => by cases hk)
  have hZ1 : Zero w1 w.heap.size := (hgrow1.block _ (by simp) (by simp)).trans (heap_alloc_new w _)
  have hR1 : Row w1 (w.heap.size + 1) n 0 (fun i => zs.getD i 0) := by
    rcases hown1.2 with ⟨h, _⟩ | ⟨g, c, cur, hv, _, hg, _, _, hs, _⟩
    · simp at h
    · simp at hv
      obtain ⟨rfl, rfl⟩ := hv
      exact ⟨cur, hg, hs, fun i hi => absurd hi (by omega)⟩
  obtain ⟨f, hf⟩ : ∃ f : Nat → Int, f = fun i => zs.getD i 0 := ⟨_, rfl⟩
  rw [← hf] at hR1
  have hfi : ∀ i, zs.getD i 0 = f i := fun i => by rw [hf]
  simp only [hfi] at hb ha
  clear hown1 hgrow1 hf hfi hz0 hz1 hz2 hi hby
  go_cut [7] from 12 to 33 (fun _ wx => Row wx (w.heap.size + 1) n n f ∧ Zero wx w.heap.size ∧ Below w.heap.size w wx)
  case first =>
    go_wp2_with fail
    go_loopg [7] n (fun g i wr => ∃ k : Nat, k + g = n ∧ i = .int .i64 k ∧ Row wr (w.heap.size + 1) n k f ∧ Zero wr w.heap.size ∧ Below w.heap.size w wr)
    case atStart => exact ⟨0, by omega, rfl, hR1, hZ1, hB1⟩
    case round =>
      obtain ⟨k, hk, rfl, hR, hZ, hB⟩ := hrel
      have HK : Hid (k + gk = n) := hk
      have hkn : k ≤ n := by omega
      clear hk
      by_cases hlt : k < n
      · obtain ⟨b, off, rfl, hc⟩ := ha (by omega)
        have x0 : wr.cell? ⟨b, off + k, none⟩ = some (.int .i64 (f k)) := (hB.cell (World.block_lt_of_cell? w _ (hc k hlt))).trans (hc k hlt)
        obtain ⟨z1, z2, z3⟩ := hZ.cells
        have hsz : w.heap.size + 1 < wr.heap.size := by obtain ⟨cs, h1, _⟩ := hR.row; exact lt_of_block h1
        have hfk := hb k hlt
        have hadd := fun w' => add_any (f k) w' hfk.1 hfk.2
        simp only [tv] at hadd
        have i0 : (0 : Int) ≤ (k : Int) := by omega
        have i1 : (k : Int) < (n : Int) := by omega
        clear hc
        go_upto_block 1 with fail
        go_cut [24] from 22 to 33 (fun _ wx => Row wx (w.heap.size + 1) n (k + 1) f ∧ Zero wx w.heap.size ∧ Below w.heap.size w wx)
        case first =>
          go_wp2_with fail
          go_region_with (go_at_call 4; refine (hadd _).mono ?_; rintro e w' ⟨rfl, hb1⟩; have hR2 := Row.below (w := wr.drew) ⟨hR.row⟩ (by exact hsz) hb1; obtain ⟨p1, g1⟩ := hR2.cell (k * 11 + 1) (by omega); obtain ⟨p2, g2⟩ := hR2.cell (k * 11 + 1 + 1) (by omega); obtain ⟨p3, g3⟩ := hR2.cell (k * 11 + 1 + 2) (by omega); have f1 := hR2.free (k * 11 + 1); have f2 := hR2.free (k * 11 + 1 + 1); have f3 := hR2.free (k * 11 + 1 + 2))
          all_goals go_wp2
          all_goals go_meet
          all_goals
            have hwr : Below wr.heap.size wr w' := (Below.refl _ wr).drew.trans hb1
            refine ⟨hR2.store hlt, ?_, ?_⟩
            · have h1 := hZ.below (by omega) hwr
              exact (Below.heap_setCell _ _ _ _ (by show w.heap.size ≠ w.heap.size + 1; omega)).trans ((Below.heap_setCell _ _ _ _ (by show w.heap.size ≠ w.heap.size + 1; omega)).trans ((Below.heap_setCell _ _ _ _ (by show w.heap.size ≠ w.heap.size + 1; omega)).trans h1))
            · exact (((hB.trans (hwr.mono hB.size)).setCell (p := ⟨w.heap.size + 1, _, none⟩) (by show w.heap.size ≤ w.heap.size + 1; omega) _).setCell (p := ⟨w.heap.size + 1, _, none⟩) (by show w.heap.size ≤ w.heap.size + 1; omega) _).setCell (p := ⟨w.heap.size + 1, _, none⟩) (by show w.heap.size ≤ w.heap.size + 1; omega) _
        case rest =>
          obtain ⟨hR3, hZ3, hB3⟩ := hcut
          go_wp2
          go_roundg (gk - 1)
          case measure => have := HK.out; omega
          case rel => exact ⟨k + 1, by have := HK.out; omega, by go_num, hR3, hZ3, hB3⟩
      · have hkn' : k = n := by omega
        subst hkn'
        go_wp2
        go_meet
        case rel => exact ⟨hR, hZ, hB⟩
  case rest =>
  obtain ⟨hR, hZ, hB⟩ := hcut
  clear hR1 hZ1 hB1
  have hsz : w.heap.size + 1 < wc.heap.size := by obtain ⟨cs, h1, _⟩ := hR.row; exact lt_of_block h1
  obtain ⟨z1, z2, z3⟩ := hZ.cells
  have hadd := add_any d wc hd.1 hd.2
  go_wp2_with fail
  refine hadd.mono ?_
  rintro e w2 ⟨rfl, hb2⟩
  go_wp2_with fail
  refine (inForce_any (w.heap.size + 1) n f d w2 hn (hR.dates.below hsz hb2)).mono ?_
  rintro e w3 ⟨rfl, hb3⟩
  have hb23 : Below wc.heap.size wc w3 := hb2.trans (hb3.mono hb2.size)
  have hR3 := hR.below hsz hb23
  have hZ3 := hZ.below (by omega) hb23
  have hB3 : Below w.heap.size w w3 := hB.trans (hb23.mono hB.size)
  have hs3 : w.heap.size + 1 < w3.heap.size := Nat.lt_of_lt_of_le hsz hb23.size
  clear hadd hb2 hb3 hb23 z1 z2 z3 hR hZ hB hsz
  go_upto_block 2 with fail
  go_cut [9, 10] from 34 to 51 (fun v _ wx => v = .int .i64 (idxI (last f d n)) ∧ wx = w3)
  case first =>
    go_wp2_with fail
    go_loopg [9, 10] n (fun g v i wr => ∃ k : Nat, k + g = n ∧ i = .int .i64 k ∧ v = .int .i64 (idxI (last f d k)) ∧ wr = w3)
    case atStart => exact ⟨0, by omega, rfl, rfl, rfl⟩
    case round =>
      obtain ⟨k, hk, rfl, rfl, rfl⟩ := hrel
      have HK : Hid (k + gk = n) := hk
      have hkn : k ≤ n := by omega
      clear hk
      by_cases hlt : k < n
      · obtain ⟨b, off, rfl, hc⟩ := ha (by omega)
        have x0 : wr.cell? ⟨b, off + k, none⟩ = some (.int .i64 (f k)) := (hB3.cell (World.block_lt_of_cell? w _ (hc k hlt))).trans (hc k hlt)
        clear hc
        by_cases hle : f k ≤ d
        · have t1 : decide (f k ≤ d) = true := by simpa using hle
          have HL : Hid (last f d (k + 1) = some k) := by show _ = _; simp [last, hle]
          go_wp2
          go_roundg (gk - 1)
          case measure => have := HK.out; omega
          case rel => exact ⟨k + 1, by have := HK.out; omega, by go_num, by rw [HL.out]; rfl, rfl⟩
        · have t1 : decide (f k ≤ d) = false := by simpa using hle
          have HL : Hid (last f d (k + 1) = last f d k) := by show _ = _; simp [last, hle]
          go_wp2
          go_roundg (gk - 1)
          case measure => have := HK.out; omega
          case rel => exact ⟨k + 1, by have := HK.out; omega, by go_num, by rw [HL.out], rfl⟩
      · have hkn' : k = n := by omega
        subst hkn'
        go_wp2
        go_meet
        case rel => exact ⟨rfl, rfl⟩
  case rest =>
  obtain ⟨rfl, rfl⟩ := hcut
  have hlast := last_lt f d n
  generalize last f d n = lst at hlast
  go_upto_if 53 with fail
  go_cut [52] from 52 to 60 (fun _ wx => wx = wc)
  case first =>
    cases lst with
    | none =>
      simp only [idxI, Option.map_none]
      go_wp2
      go_meet
      case rel => rfl
    | some i =>
      have hin := hlast i rfl
      have hpe := fun w a => neq_ptr40 w a
      clear hlast
      simp only [idxI, Option.map_some]
      go_wp2
      go_meet
      case rel => rfl
  case rest =>
  subst hcut
  clear hlast
  go_upto_block 4 with fail
  generalize Value.pointer (Option.map (fun i => (⟨w.heap.size + 1, i * 11, none⟩ : Addr)) lst) = v8
  generalize Value.int IntKind.i64 (idxI lst) = v9
  go_cut [11] from 61 to 79 (fun _ wx => Below w.heap.size w wx)
  case first =>
    go_wp2_with fail
    go_loopg [11] n (fun g i wr => ∃ k : Nat, k + g = n ∧ i = .int .i64 k ∧ Row wr (w.heap.size + 1) n n f ∧ Zero wr w.heap.size ∧ Below w.heap.size w wr ∧ w.heap.size + 1 < wr.heap.size)
    case atStart => exact ⟨0, by omega, rfl, hR3, hZ3, hB3, hs3⟩
    case round =>
      obtain ⟨k, hk, rfl, hR, hZ, hB, hsz⟩ := hrel
      have HK : Hid (k + gk = n) := hk
      have hkn : k ≤ n := by omega
      clear hk
      by_cases hlt : k < n
      · obtain ⟨b, off, rfl, hc⟩ := ha (by omega)
        have x0 : wr.cell? ⟨b, off + k, none⟩ = some (.int .i64 (f k)) := (hB.cell (World.block_lt_of_cell? w _ (hc k hlt))).trans (hc k hlt)
        obtain ⟨z1, z2, z3⟩ := hZ.cells
        have hfk := hb k hlt
        have hadd := fun w' => add_any (f k) w' hfk.1 hfk.2
        have heq := fun w' => equal_any (f k) w'
        simp only [tv] at hadd heq
        have s1 := hR.dates.c1 k hlt
        have s2 := hR.dates.c2 k hlt
        have s3 := hR.dates.c3 k hlt
        have i0 : (0 : Int) ≤ (k : Int) := by omega
        have i1 : (k : Int) < (n : Int) := by omega
        clear hc
        go_upto_region 24 with fail
        go_cut [79] from 65 to 79 (fun v wx => v = .bool false ∧ Below wr.heap.size wr wx)
        case first =>
          go_region_with (first | (go_at_call 4; refine (hadd _).mono ?_; rintro e w' ⟨rfl, hb1⟩; have hw1 : Below wr.heap.size wr w' := (Below.refl _ wr).drew.trans hb1; have hD2 := (hR.below hsz hw1).dates; have s1' := hD2.c1 k hlt; have s2' := hD2.c2 k hlt; have s3' := hD2.c3 k hlt) | (go_at_call 6; refine (heq _).mono ?_; rintro e w'' ⟨rfl, hb2⟩))
          all_goals go_wp2
          all_goals go_meet
          all_goals exact ⟨rfl, hw1.trans (hb2.mono hw1.size)⟩
        case rest =>
          obtain ⟨rfl, hB2⟩ := hcut
          have hR4 := hR.below hsz hB2
          have hZ4 := hZ.below (by omega) hB2
          have hB4 : Below w.heap.size w wc := hB.trans (hB2.mono hB.size)
          have hs4 : w.heap.size + 1 < wc.heap.size := Nat.lt_of_lt_of_le hsz hB2.size
          go_wp2
          go_roundg (gk - 1)
          case measure => have := HK.out; omega
          case rel => exact ⟨k + 1, by have := HK.out; omega, by go_num, hR4, hZ4, hB4, hs4⟩
      · go_wp2
        go_meet
        case rel => exact hB
  case rest =>
  go_wp2
  go_ret
  exact ⟨rfl, hcut⟩

set_option maxHeartbeats 400000 in
theorem law_great (a0 : Option Addr) (n cap : Nat) (d : Int) (w : World) (hn : 1024 < n) (hm : n ≤ maxLen) :
    Calls Yba.prog 3 #[.slice a0 n cap, .int .i64 d] w fun e w' => e = .returned (.bool true) ∧ Below w.heap.size w w' := by
  unfold maxLen at hm
  have t0 : decide ((1024 : Int) < (n : Int)) = true := by simp; omega
  go_enter Yba.func3, Yba.ntmps3
  go_wp2
  go_ret
  exact ⟨rfl, Below.refl _ _⟩

end Go.Proofs.Ybulkcqkg
