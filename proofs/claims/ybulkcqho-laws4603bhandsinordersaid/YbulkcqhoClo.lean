import Derived.Test.YbulkcqhoParts
import Derived.Deep.RegionLaw
import Derived.Deep.CutRange
import Derived.Deep.DrawnRows
namespace Go.Proofs.Ybulkcqho
open Go.RowKit

attribute [local go_sem ↓] Go.wp_at_zero Go.wp_at_succ

theorem Yba.info3 : (Yba.prog.info? 3).map (fun i => (i.zero, i.size, i.bytes)) = some (some (.int .i64 0), 1, 8) := by kernel_rfl
theorem Yba.info4 : (Yba.prog.info? 4).map (fun i => (i.zero, i.size, i.bytes)) = some (some (.bool false), 1, 1) := by kernel_rfl

/-- What the closure reads of the queue, in a world that its statements have left. -/
structure Seen (N m c : Nat) (a : Option Addr) (w : World) : Prop where
  hv : w.cell? ⟨N + 7, 0, none⟩ = some (.pointer (some ⟨N + 6, 0, none⟩))
  h1 : w.cell? ⟨N + 6, 1, none⟩ = some (.int .i32 0)
  f1 : w.frozen? ⟨N + 6, 1, none⟩ = false
  h10 : w.cell? ⟨N + 6, 10, none⟩ = some (.slice a m c)
  h11 : w.cell? ⟨N + 6, 11, none⟩ = some (.bool true)

theorem Seen.later {N m c : Nat} {a : Option Addr} {w w' : World} {X : Nat → List Value} (h : Seen N m c a w) (hL : Lg N w X w') : Seen N m c a w' :=
  ⟨(World.cell?_of_block (hL.same (N + 7) (by omega) (by omega))).trans h.hv, (World.cell?_of_block (hL.same (N + 6) (by omega) (by omega))).trans h.h1,
   (World.frozen?_of_block (hL.same (N + 6) (by omega) (by omega))).trans h.f1, (World.cell?_of_block (hL.same (N + 6) (by omega) (by omega))).trans h.h10,
   (World.cell?_of_block (hL.same (N + 6) (by omega) (by omega))).trans h.h11⟩

set_option maxRecDepth 100000 in
set_option maxHeartbeats 1600000 in
theorem clo_any (N m c : Nat) (a : Option Addr) (x : Int) (X : Nat → List Value) (w : World) (hR : ∃ V, Rows4 N w V X) (hm : m ≤ 4096) (hX : ∀ i, i < 4 → (X i).length ≤ 4096) (hS : Seen N m c a w) :
    Calls Yba.prog 4 #[.int .i64 x, .pointer (some ⟨N + 1, 0, none⟩), .pointer (some ⟨N + 2, 0, none⟩), .pointer (some ⟨N + 7, 0, none⟩), .pointer (some ⟨N + 3, 0, none⟩), .pointer (some ⟨N + 4, 0, none⟩)] w
      fun e w' => e = .returned (.tuple #[]) ∧ Lg N w (app (app (app (app X 0 (.int .i64 x)) 1 (.int .i64 (m + 1))) 2 (.bool true)) 3 (.int .i64 m)) w' := by
  obtain ⟨i0, hi, hz0, hz1, hz2⟩ := info_parts Yba.info3
  have hx0 := hX 0 (by omega)
  have hx1 := hX 1 (by omega)
  have hx2 := hX 2 (by omega)
  have hx3 := hX 3 (by omega)
  clear hX
  go_enter Yba.func4, Yba.ntmps4
  go_upto_region 0 with fail
  go_cut [7] from 7 to 10 (fun _ wx => Lg N w (app X 0 (.int .i64 x)) wx)
  case first =>
    obtain ⟨V, hR⟩ := hR
    have c0 := hR.cell 0 (by omega)
    have z0 := free_of_one (hR.blk 0 (by omega))
    simp only [Nat.add_zero] at c0 z0
    go_wp2_with (at_builtin; refine wpList_append_lies _ rfl _ _ 22 rfl (N + 8) 3 i0 (.int .i64 0) 1 8 Yba.underlying22 hi hz0 hz1 hz2 rfl (by decide) (V 0) (X 0).length (X 0) rfl ((hR.own 0 (by omega)).alloc _) ⟨w.heap.size, 0, none⟩ 1 1 [.int .i64 x] rfl rfl (cell_one_new _ _ _) (by simp [Value.oneCell']) (by omega) (by unfold maxLen; omega) (by omega) (by have := hR.size; simp; omega) (w.heap.size + 1) (by simp) ?_; intro g cap w1 hown1 hgrow1 hat1 hlt1; obtain ⟨hc1, hf1⟩ := low_of hR.size (hR.own 0 (by omega)) ((Below.refl _ _).alloc (Nat.le_refl _) _) hgrow1)
    go_meet
    case rel => exact (Lg.start hR).step hR 0 (by omega) (.int .i64 x) g cap ((Below.refl _ _).alloc (Nat.le_refl _) _) (by simp) hown1 hgrow1 hat1
  case rest =>
  rw [← app_other X 0 1 (.int .i64 x) (by omega)] at hx1
  rw [← app_other X 0 2 (.int .i64 x) (by omega)] at hx2
  rw [← app_other X 0 3 (.int .i64 x) (by omega)] at hx3
  generalize hX1 : app X 0 (.int .i64 x) = X1 at hx1 hx2 hx3 hcut
  have HX1 : Hid (app X 0 (.int .i64 x) = X1) := hX1
  clear hX1
  go_upto_region 1 with fail
  go_cut [11] from 11 to 15 (fun _ wx => Lg N w (app X1 1 (.int .i64 (m + 1))) wx)
  case first =>
    obtain ⟨V, R⟩ := hcut.rows
    have S := hS.later hcut
    have k1 : wc.cell? ⟨N + 2, 0, none⟩ = some (V 1) := R.cell 1 (by omega)
    have y1 : wc.frozen? ⟨N + 2, 0, none⟩ = false := free_of_one (R.blk 1 (by omega))
    have kv := S.hv
    have o1 : wc.ownsRow (N + 8) 3 1 (V 1) (X1 1).length (X1 1) := R.own 1 (by omega)
    have sz1 := R.size
    have hlen : Calls Yba.prog 5 #[.pointer (some ⟨N + 6, 0, none⟩)] wc.drew fun e w' => e = .returned (.int .i64 (m + 1)) ∧ w' = wc.drew := by
      have := len_any (N + 6) m c a true wc.drew hm (by simpa using S.h1) (by simpa using S.f1) (by simpa using S.h10) (by simpa using S.h11)
      simpa [one] using this
    have hal : ∀ o, (wc.alloc o).cell? ⟨N + 2, 0, none⟩ = some (V 1) := fun o => (((Below.refl _ wc).alloc (Nat.le_refl _) o).cell (by show N + 2 < wc.heap.size; omega)).trans k1
    go_region_law (first
      | (refine step_append_lies _ (by rfl) _ _ _ (by rfl) (N + 8) 3 i0 _ 1 8 Yba.underlying22 hi hz0 hz1 hz2 rfl (by omega) (V 1) (X1 1).length (X1 1) (by rfl) ((o1.alloc _).drew) ⟨wc.heap.size, 0, none⟩ 1 1 [.int .i64 (m + 1)] (by rfl) (by rfl) (World.news_of_block (cs := #[.int .i64 (m + 1)]) (t := 3) (fr := (0, 0)) (heap_alloc_new wc _)) (by simp [Value.oneCell']) (by omega) (by unfold maxLen; omega) (by omega) (by simp; omega) (wc.heap.size + 1) (by simp) ?_; intro g2 cap2 w3 hown2 hgrow2 hat2 hlt2; obtain ⟨hc3, hf3⟩ := low_of sz1 o1 (((Below.refl _ _).alloc (Nat.le_refl _) _).drew) hgrow2)
      | (go_simp; go_at_call 5; refine hlen.mono ?_; rintro e w' ⟨rfl, rfl⟩))
    all_goals (go_wp2; go_meet)
    all_goals exact hcut.step R 1 (by omega) (.int .i64 (m + 1)) g2 cap2 (((Below.refl _ _).alloc (Nat.le_refl _) _).drew) (by simp) hown2 hgrow2 hat2
  case rest =>
  rw [← app_other X1 1 2 (.int .i64 (m + 1)) (by omega)] at hx2
  rw [← app_other X1 1 3 (.int .i64 (m + 1)) (by omega)] at hx3
  clear hx1 hx0
  generalize hX2 : app X1 1 (.int .i64 (m + 1)) = X2 at hx2 hx3 hcut
  have HX2 : Hid (app X1 1 (.int .i64 (m + 1)) = X2) := hX2
  clear hX2
  go_upto_region 2 with fail
  go_cut [16] from 16 to 22 (fun _ wx => Lg N w (app X2 2 (.bool true)) wx)
  case first =>
    obtain ⟨V, R⟩ := hcut.rows
    have S := hS.later hcut
    have k1 : wc.cell? ⟨N + 3, 0, none⟩ = some (V 2) := R.cell 2 (by omega)
    have y1 : wc.frozen? ⟨N + 3, 0, none⟩ = false := free_of_one (R.blk 2 (by omega))
    have kv := S.hv
    have k11 := S.h11
    have o1 : wc.ownsRow (N + 8) 4 1 (V 2) (X2 2).length (X2 2) := R.own 2 (by omega)
    have sz1 := R.size
    have hal : ∀ o, (wc.alloc o).cell? ⟨N + 3, 0, none⟩ = some (V 2) := fun o => (((Below.refl _ wc).alloc (Nat.le_refl _) o).cell (by show N + 3 < wc.heap.size; omega)).trans k1
    obtain ⟨j0, hj, hy0, hy1, hy2⟩ := info_parts Yba.info4
    go_region_law (first
      | (refine step_append_lies _ (by rfl) _ _ _ (by rfl) (N + 8) 4 j0 _ 1 1 Yba.underlying23 hj hy0 hy1 hy2 rfl (by omega) (V 2) (X2 2).length (X2 2) (by rfl) ((o1.alloc _).drew) ⟨wc.heap.size, 0, none⟩ 1 1 [.bool true] (by rfl) (by rfl) (World.news_of_block (cs := #[.bool true]) (t := 4) (fr := (0, 0)) (heap_alloc_new wc _)) (by simp [Value.oneCell']) (by omega) (by unfold maxLen; omega) (by omega) (by simp; omega) (wc.heap.size + 1) (by simp) ?_; intro g2 cap2 w3 hown2 hgrow2 hat2 hlt2; obtain ⟨hc3, hf3⟩ := low_of sz1 o1 (((Below.refl _ _).alloc (Nat.le_refl _) _).drew) hgrow2))
    all_goals (go_wp2; go_meet)
    all_goals exact hcut.step R 2 (by omega) (.bool true) g2 cap2 (((Below.refl _ _).alloc (Nat.le_refl _) _).drew) (by simp) hown2 hgrow2 hat2
  case rest =>
  rw [← app_other X2 2 3 (.bool true) (by omega)] at hx3
  clear hx2
  generalize hX3 : app X2 2 (.bool true) = X3 at hx3 hcut
  have HX3 : Hid (app X2 2 (.bool true) = X3) := hX3
  clear hX3
  go_upto_region 3 with fail
  obtain ⟨V, R⟩ := hcut.rows
  have S := hS.later hcut
  have k1 : wc.cell? ⟨N + 4, 0, none⟩ = some (V 3) := R.cell 3 (by omega)
  have y1 : wc.frozen? ⟨N + 4, 0, none⟩ = false := free_of_one (R.blk 3 (by omega))
  have kv := S.hv
  have k10 := S.h10
  have o1 : wc.ownsRow (N + 8) 3 1 (V 3) (X3 3).length (X3 3) := R.own 3 (by omega)
  have sz1 := R.size
  have hal : ∀ o, (wc.alloc o).cell? ⟨N + 4, 0, none⟩ = some (V 3) := fun o => (((Below.refl _ wc).alloc (Nat.le_refl _) o).cell (by show N + 4 < wc.heap.size; omega)).trans k1
  go_region_law (first
    | (refine step_append_lies _ (by rfl) _ _ _ (by rfl) (N + 8) 3 i0 _ 1 8 Yba.underlying22 hi hz0 hz1 hz2 rfl (by omega) (V 3) (X3 3).length (X3 3) (by rfl) ((o1.alloc _).drew) ⟨wc.heap.size, 0, none⟩ 1 1 [.int .i64 m] (by rfl) (by rfl) (World.news_of_block (cs := #[.int .i64 m]) (t := 3) (fr := (0, 0)) (heap_alloc_new wc _)) (by simp [Value.oneCell']) (by omega) (by unfold maxLen; omega) (by omega) (by simp; omega) (wc.heap.size + 1) (by simp) ?_; intro g2 cap2 w3 hown2 hgrow2 hat2 hlt2; obtain ⟨hc3, hf3⟩ := low_of sz1 o1 (((Below.refl _ _).alloc (Nat.le_refl _) _).drew) hgrow2))
  all_goals go_wp2
  all_goals go_end0
  all_goals
    have fin := hcut.step R 3 (by omega) (.int .i64 m) g2 cap2 (((Below.refl _ _).alloc (Nat.le_refl _) _).drew) (by simp) hown2 hgrow2 hat2
    refine ⟨rfl, ?_⟩
    rw [HX1.out, HX2.out, HX3.out]
    exact fin

end Go.Proofs.Ybulkcqho
